/- The reference's url, walked. Conditions: those of the lexer in memory (SA). -/
import Derived.Test.YtedckphklebndaaGreatDoorQGG
namespace Go.Proofs.YtedckphklebndaaGreatDoor
open Go Go.RowKit
theorem spaceF_tail {l : List Int} (h : isSp (hd l) = true) : spaceF l = spaceF l.tail := (dropWhile_go isSp_end h).1
theorem spaceF_le (l : List Int) : (spaceF l).length ≤ l.length := (List.dropWhile_sublist (l := l) isSp).length_le
theorem urlF_end {out : List UInt8} {l : List Int} (h : l = []) : urlF out l = ({ kind := 37, text := out }, [], true) := by subst h; rw [urlF]
theorem urlF_close {out : List UInt8} {l : List Int} (h : hd l = 41) : urlF out l = ({ kind := 37, text := out }, l.tail, false) := by
  cases l with
  | nil => simp at h
  | cons c t => simp only [hd_cons] at h; rw [urlF]; simp [h]
theorem urlF_sp {out : List UInt8} {l : List Int} (h : isSp (hd l) = true) (h2 : spaceF l = [] ∨ hd (spaceF l) = 41) : urlF out l = urlF out (spaceF l) := by
  cases l with
  | nil => cases h
  | cons c t =>
    have e := spaceF_tail h
    simp only [hd_cons, List.tail_cons] at h e
    have hc : c ≠ 41 := by rintro rfl; cases h
    rw [e] at h2 ⊢
    rw [urlF]
    simp only [hc, if_false, h, if_true]
    by_cases h3 : spaceF t = []
    · rw [if_pos h3, urlF_end h3]
    · rw [if_neg h3, if_pos (h2.resolve_left h3), urlF_close (h2.resolve_left h3)]
theorem urlF_spbad {out : List UInt8} {l : List Int} (h : isSp (hd l) = true) (h2 : spaceF l ≠ []) (h3 : hd (spaceF l) ≠ 41) : urlF out l = ({ kind := 3 }, (badF (spaceF l)).1, (badF (spaceF l)).2) := by
  cases l with
  | nil => cases h
  | cons c t =>
    have e := spaceF_tail h
    simp only [hd_cons, List.tail_cons] at h e
    have hc : c ≠ 41 := by rintro rfl; cases h
    rw [e] at h2 h3 ⊢
    rw [urlF]
    simp only [hc, if_false, h, if_true, if_neg h2, if_neg h3]
theorem urlF_bad {out : List UInt8} {l : List Int} (h0 : l ≠ []) (h1 : hd l ≠ 41) (h : isSp (hd l) = false) (h2 : hd l = 34 ∨ hd l = 39 ∨ hd l = 40 ∨ unpr (hd l) = true ∨ (hd l = 92 ∧ isNL (pk l 1) = true)) : urlF out l = ({ kind := 3 }, (badF l).1, (badF l).2) := by
  cases l with
  | nil => exact absurd rfl h0
  | cons c t =>
    simp only [hd_cons, pk_cons, pk_zero] at h1 h h2
    rw [urlF]
    rw [if_neg h1, h, if_neg (by decide), if_pos h2]
theorem urlF_esc {out : List UInt8} {l : List Int} (h2 : hd l = 92) (h3 : isNL (pk l 1) = false) : urlF out l = ((urlF (out ++ enc (escF l.tail).1) (escF l.tail).2.1).1, (urlF (out ++ enc (escF l.tail).1) (escF l.tail).2.1).2.1, (escF l.tail).2.2 || (urlF (out ++ enc (escF l.tail).1) (escF l.tail).2.1).2.2) := by
  cases l with
  | nil => simp at h2
  | cons c t =>
    simp only [hd_cons, pk_cons, pk_zero, List.tail_cons] at h2 h3 ⊢
    subst h2
    rw [urlF]
    rw [if_neg (by decide), show isSp 92 = false from rfl, if_neg (by decide), if_neg (by simp [h3, unpr]), if_pos rfl]
theorem urlF_go {out : List UInt8} {l : List Int} (h0 : l ≠ []) (h1 : hd l ≠ 41) (h : isSp (hd l) = false) (a : hd l ≠ 34) (b : hd l ≠ 39) (c' : hd l ≠ 40) (d : unpr (hd l) = false) (e : hd l ≠ 92) : urlF out l = urlF (out ++ enc (hd l)) l.tail := by
  cases l with
  | nil => exact absurd rfl h0
  | cons c t =>
    simp only [hd_cons] at h1 h a b c' d e
    rw [urlF]
    simp [h1, h, a, b, c', d, e]
/-- url's loop. -/
def UR (w0 : World) (g : Nat) (s : ByteArray) (l : List Int) (v : Value) (o : Bool) (k : Nat) (a : Value) (w : World) : Prop :=
  ∃ l' x o', l'.length = k ∧ a = .string x ∧ (urlF x.data.toList l').1 = (urlF [] l).1 ∧ (urlF x.data.toList l').2.1 = (urlF [] l).2.1 ∧ (o' || (urlF x.data.toList l').2.2) = (o || (urlF [] l).2.2) ∧ x.size + 4 * l'.length ≤ 4 * l.length ∧ SA w0 w g s l' v o'
theorem escs_nl {a b : Int} (h : a = 92) : escs a b = !isNL b := by subst h; rfl
set_option maxRecDepth 100000 in
set_option maxHeartbeats 4000000 in
theorem url_sa {w0 w : World} {g : Nat} {s : ByteArray} {l : List Int} {v : Value} {o : Bool} (h : SA w0 w g s l v o) :
    Calls Tryz.prog 70 #[.pointer (some ⟨g, 0, none⟩)] w fun e w' => e = .returned (tokV (urlF [] l).1 0 0) ∧ SA w0 w' g s (urlF [] l).2.1 v (o || (urlF [] l).2.2) := by
  have hA0 : SA (wT w) (wT w) g s l v o := (h.alloc _).now
  have hlt := h.lt
  have hsz := h.kp.size
  have HN := Lib.hid h.len
  have h9 := h.alloc (.cells #[.int .i64 0, .int .i64 0, .int .i64 0, .int .i64 0, .bool false, .string ⟨#[]⟩] 42)
  go_enter Tryz.func70, Tryz.ntmps70
  go_wp2_with fail
  go_loopg [3] l.length (fun k a wr => UR (wT w) g s l v o k a wr)
  case atStart => exact ⟨l, ⟨#[]⟩, o, rfl, rfl, rfl, rfl, rfl, by show 0 + _ ≤ _; omega, hA0⟩
  case round =>
    obtain ⟨l', x, o', hk, rfl, h1, h2, h3, h4, hA⟩ := hrel
    have HK := Lib.hid hk
    have H1 := Lib.hid h1
    have H2 := Lib.hid h2
    have H3 := Lib.hid h3
    have H4 := Lib.hid h4
    clear hk h1 h2 h3 h4 hA0
    by_cases hn : l' = []
    · subst hn
      have HE := Lib.hid (urlF_end (out := x.data.toList) (l := []) rfl)
      have c3 := hA.sl.c3
      have f3 := blk_frozen hA.sl 3
      obtain ⟨d0, d1, d2, d3, d4, d5, f0⟩ := tok_blk hA hlt
      have hA2 : SA (wT w) (wr.setCell ⟨g, 3, none⟩ (.bool true)) g s [] v true := ⟨hA.sl.set3 true, hA.sfx, hA.kp.setCell (fun _ => rfl) _, hA.size⟩
      go_wp2_with (first | (go_at_call 35; (with_reducible refine (peek0 hA).mono ?_); rintro e w' ⟨rfl, rfl⟩) | (go_at_call 35; (with_reducible refine (peek1 hA).mono ?_); rintro e w' ⟨rfl, rfl⟩) | (go_at_call 37; refine (isSpace_calls _ _).mono ?_; rintro e w' ⟨rfl, rfl⟩) | (go_at_call 92; refine (isUnprintable_calls _ _).mono ?_; rintro e w' ⟨rfl, rfl⟩) | (go_at_call 41; refine (escapes_calls _ _ _).mono ?_; rintro e w' ⟨rfl, rfl⟩))
      refine bodyPost_ret (v := tokV { kind := 37, text := x.data.toList } 0 0) (by unfold tokV; simp [results, Tryz.results70, go_sem, d0, d1, d2, d3, d4, d5]) rfl ⟨?_, ?_⟩
      · exact ret_tok (by rw [← H1.out, HE.out])
      · refine SA.far6 ?_ (by omega) (by omega) _ _ _ _ _ _
        have a2 := H2.out
        have a3 := H3.out
        rw [HE.out] at a2 a3
        rw [← a2, ← a3]
        simpa using h9.from hA2
    · have hne := hd_ne hA.sfx.all hn
      have HL := Lib.hid (tail_lt hne)
      have b2 : (hd l' == -1) = false := by simp [hne]
      have HRN := Lib.hid (hd_rn hA.sfx.all hne)
      have HN' := Lib.hid hn
      clear hn
      by_cases hc : hd l' = 41
      · have HE := Lib.hid (urlF_close (out := x.data.toList) hc)
        have b1 : (hd l' == 41) = true := by simp [hc]
        clear hc hne
        go_wp2_with (first | (go_at_call 35; (with_reducible refine (peek0 hA).mono ?_); rintro e w' ⟨rfl, rfl⟩) | (go_at_call 35; (with_reducible refine (peek1 hA).mono ?_); rintro e w' ⟨rfl, rfl⟩) | (go_at_call 37; refine (isSpace_calls _ _).mono ?_; rintro e w' ⟨rfl, rfl⟩) | (go_at_call 92; refine (isUnprintable_calls _ _).mono ?_; rintro e w' ⟨rfl, rfl⟩) | (go_at_call 41; refine (escapes_calls _ _ _).mono ?_; rintro e w' ⟨rfl, rfl⟩))
        refine (take_sa hA).mono ?_
        rintro e w2 ⟨rfl, hA2⟩
        obtain ⟨d0, d1, d2, d3, d4, d5, f0⟩ := tok_blk hA2 hlt
        go_wp2
        refine bodyPost_ret (v := tokV { kind := 37, text := x.data.toList } 0 0) (by unfold tokV; simp [results, Tryz.results70, go_sem, d0, d1, d2, d3, d4, d5]) rfl ⟨?_, ?_⟩
        · exact ret_tok (by rw [← H1.out, HE.out])
        · refine SA.far6 ?_ (by omega) (by omega) _ _ _ _ _ _
          have a2 := H2.out
          have a3 := H3.out
          rw [HE.out] at a2 a3
          rw [← a2, ← a3]
          simpa using h9.from hA2
      · have b1 : (hd l' == 41) = false := by simp [hc]
        cases hsp : isSp (hd l')
        · by_cases hbad : hd l' = 34 ∨ hd l' = 39 ∨ hd l' = 40 ∨ unpr (hd l') = true ∨ (hd l' = 92 ∧ isNL (pk l' 1) = true)
          · have HE := Lib.hid (urlF_bad (out := x.data.toList) HN'.out hc hsp hbad)
            have hcases : (hd l' == 34) = true ∨ ((hd l' == 34) = false ∧ (hd l' == 39) = true) ∨ ((hd l' == 34) = false ∧ (hd l' == 39) = false ∧ (hd l' == 40) = true) ∨ ((hd l' == 34) = false ∧ (hd l' == 39) = false ∧ (hd l' == 40) = false ∧ unpr (hd l') = true) ∨ ((hd l' == 34) = false ∧ (hd l' == 39) = false ∧ (hd l' == 40) = false ∧ unpr (hd l') = false ∧ (hd l' == 92) = true ∧ escs (hd l') (pk l' 1) = false) := by
              by_cases p1 : hd l' = 34
              · simp [p1]
              · by_cases p2 : hd l' = 39
                · simp [p2]
                · by_cases p3 : hd l' = 40
                  · simp [p3]
                  · cases p4 : unpr (hd l')
                    · simp only [p1, p2, p3, p4, false_or, Bool.false_eq_true] at hbad
                      rw [escs_nl hbad.1]
                      simp [hbad.1, hbad.2]
                    · simp [p1, p2, p3]
            clear hc hne hbad
            rcases hcases with q1 | ⟨q1, q2⟩ | ⟨q1, q2, q3⟩ | ⟨q1, q2, q3, q4⟩ | ⟨q1, q2, q3, q4, q5, q6⟩
            all_goals
              go_wp2_with (first | (go_at_call 35; (with_reducible refine (peek0 hA).mono ?_); rintro e w' ⟨rfl, rfl⟩) | (go_at_call 35; (with_reducible refine (peek1 hA).mono ?_); rintro e w' ⟨rfl, rfl⟩) | (go_at_call 37; refine (isSpace_calls _ _).mono ?_; rintro e w' ⟨rfl, rfl⟩) | (go_at_call 92; refine (isUnprintable_calls _ _).mono ?_; rintro e w' ⟨rfl, rfl⟩) | (go_at_call 41; refine (escapes_calls _ _ _).mono ?_; rintro e w' ⟨rfl, rfl⟩))
              refine (badURL_sa hA).mono ?_
              rintro e w2 ⟨rfl, hA2⟩
              obtain ⟨d0, d1, d2, d3, d4, d5, f0⟩ := tok_blk hA2 hlt
              unfold tokV
              go_wp2
              refine bodyPost_ret (v := tokV { kind := 3 } 0 0) (by unfold tokV; simp [results, Tryz.results70, go_sem, d0, d1, d2, d3, d4, d5]) rfl ⟨?_, ?_⟩
              · exact ret_tok (by rw [← H1.out, HE.out])
              · refine SA.far6 ?_ (by omega) (by omega) _ _ _ _ _ _
                have a2 := H2.out
                have a3 := H3.out
                rw [HE.out] at a2 a3
                rw [← a2, ← a3]
                exact h9.from hA2
          · have p1 : (hd l' == 34) = false := by simp; exact fun q => hbad (.inl q)
            have p2 : (hd l' == 39) = false := by simp; exact fun q => hbad (.inr (.inl q))
            have p3 : (hd l' == 40) = false := by simp; exact fun q => hbad (.inr (.inr (.inl q)))
            have p4 : unpr (hd l') = false := by
              cases q : unpr (hd l')
              · rfl
              · exact absurd (.inr (.inr (.inr (.inl q)))) hbad
            by_cases hb : hd l' = 92
            · have hm : isNL (pk l' 1) = false := by
                cases q : isNL (pk l' 1)
                · rfl
                · exact absurd (.inr (.inr (.inr (.inr ⟨hb, q⟩)))) hbad
              have HE := Lib.hid (urlF_esc (out := x.data.toList) hb hm)
              have p5 : (hd l' == 92) = true := by simp [hb]
              have p6 : escs (hd l') (pk l' 1) = true := by rw [escs_nl hb, hm]; rfl
              clear hb hc hne hbad hm
              have HR : Hid (x.size + (enc (escF l'.tail).1).length ≤ 4398046511104) := by
                have e1 := enc_len (escF l'.tail).1
                have e2 := H4.out
                have e3 := HN.out
                have e4 := HL.out
                exact Lib.hid (by omega)
              go_wp2_with (first | (go_at_call 35; (with_reducible refine (peek0 hA).mono ?_); rintro e w' ⟨rfl, rfl⟩) | (go_at_call 35; (with_reducible refine (peek1 hA).mono ?_); rintro e w' ⟨rfl, rfl⟩) | (go_at_call 37; refine (isSpace_calls _ _).mono ?_; rintro e w' ⟨rfl, rfl⟩) | (go_at_call 92; refine (isUnprintable_calls _ _).mono ?_; rintro e w' ⟨rfl, rfl⟩) | (go_at_call 41; refine (escapes_calls _ _ _).mono ?_; rintro e w' ⟨rfl, rfl⟩))
              refine (take_sa hA).mono ?_
              rintro e w2 ⟨rfl, hA2⟩
              go_wp2_with fail
              refine (escape_sa hA2).mono ?_
              rintro e w3 ⟨rfl, hA3⟩
              go_wp2_with fail
              refine (encoded_calls _ (escF_rn hA2.sfx.all) _).mono ?_
              rintro e w4 ⟨rfl, hK⟩
              have hr := HR.out
              go_wp2_with fail
              go_roundg (escF l'.tail).2.1.length
              case measure => rw [← HK.out]; exact Nat.lt_of_le_of_lt (escF_le _) HL.out
              case rel =>
                refine ⟨(escF l'.tail).2.1, _, (o' || (escF l'.tail).2.2), rfl, rfl, ?_, ?_, ?_, ?_, hA3.keepA hK⟩
                · rw [str_app', ← H1.out, HE.out]
                · rw [str_app', ← H2.out, HE.out]
                · rw [str_app', ← H3.out, HE.out, Bool.or_assoc]
                · have e1 := enc_len (escF l'.tail).1; have e2 := H4.out; have e4 := HL.out; have e5 := escF_le l'.tail
                  rw [str_size']; omega
            · have p5 : (hd l' == 92) = false := by simp [hb]
              have HE := Lib.hid (urlF_go (out := x.data.toList) HN'.out hc hsp (by simpa using p1) (by simpa using p2) (by simpa using p3) p4 hb)
              clear hb hc hne hbad
              have HR : Hid (x.size + (enc (hd l')).length ≤ 4398046511104) := by
                have e1 := enc_len (hd l')
                have e2 := H4.out
                have e3 := HN.out
                have e4 := HL.out
                exact Lib.hid (by omega)
              go_wp2_with (first | (go_at_call 35; (with_reducible refine (peek0 hA).mono ?_); rintro e w' ⟨rfl, rfl⟩) | (go_at_call 35; (with_reducible refine (peek1 hA).mono ?_); rintro e w' ⟨rfl, rfl⟩) | (go_at_call 37; refine (isSpace_calls _ _).mono ?_; rintro e w' ⟨rfl, rfl⟩) | (go_at_call 92; refine (isUnprintable_calls _ _).mono ?_; rintro e w' ⟨rfl, rfl⟩) | (go_at_call 41; refine (escapes_calls _ _ _).mono ?_; rintro e w' ⟨rfl, rfl⟩))
              refine (take_sa hA).mono ?_
              rintro e w2 ⟨rfl, hA2⟩
              go_wp2_with fail
              refine (encoded_calls _ HRN.out _).mono ?_
              rintro e w3 ⟨rfl, hK⟩
              have hr := HR.out
              go_wp2_with fail
              go_roundg l'.tail.length
              case measure => rw [← HK.out]; exact HL.out
              case rel =>
                refine ⟨l'.tail, _, o', rfl, rfl, ?_, ?_, ?_, ?_, hA2.keepA hK⟩
                · rw [str_app', ← HE.out]; exact H1.out
                · rw [str_app', ← HE.out]; exact H2.out
                · rw [str_app', ← HE.out]; exact H3.out
                · have e1 := enc_len (hd l'); have e2 := H4.out; have e4 := HL.out
                  rw [str_size']; omega
        · have HS2 := Lib.hid (spaceF_tail hsp)
          by_cases hg : spaceF l' = [] ∨ hd (spaceF l') = 41
          · have HE := Lib.hid (urlF_sp (out := x.data.toList) hsp hg)
            have q1 : ((hd (spaceF l') != 41) = false) ∨ ((hd (spaceF l') != 41) = true ∧ (hd (spaceF l') != -1) = false) := by
              rcases hg with hg | hg
              · rw [hg]; exact .inr ⟨rfl, rfl⟩
              · rw [hg]; exact .inl rfl
            clear hc hne hg
            rcases q1 with q1 | ⟨q1, q2⟩
            all_goals
              go_wp2_with (first | (go_at_call 35; (with_reducible refine (peek0 hA).mono ?_); rintro e w' ⟨rfl, rfl⟩) | (go_at_call 35; (with_reducible refine (peek1 hA).mono ?_); rintro e w' ⟨rfl, rfl⟩) | (go_at_call 37; refine (isSpace_calls _ _).mono ?_; rintro e w' ⟨rfl, rfl⟩) | (go_at_call 92; refine (isUnprintable_calls _ _).mono ?_; rintro e w' ⟨rfl, rfl⟩) | (go_at_call 41; refine (escapes_calls _ _ _).mono ?_; rintro e w' ⟨rfl, rfl⟩))
              refine (spaces_sa hA).mono ?_
              rintro e w2 ⟨rfl, hA2⟩
              go_wp2_with (go_at_call 35; (with_reducible refine (peek0 hA2).mono ?_); rintro e w' ⟨rfl, rfl⟩)
              go_roundg (spaceF l').length
              case measure => rw [← HK.out, HS2.out]; exact Nat.lt_of_le_of_lt (spaceF_le _) HL.out
              case rel =>
                have e4 := H4.out
                have e5 := spaceF_le l'
                refine ⟨spaceF l', x, o', rfl, rfl, ?_, ?_, ?_, by omega, hA2⟩
                · rw [← HE.out]; exact H1.out
                · rw [← HE.out]; exact H2.out
                · rw [← HE.out]; exact H3.out
          · have hg1 : spaceF l' ≠ [] := fun q => hg (.inl q)
            have hg2 : hd (spaceF l') ≠ 41 := fun q => hg (.inr q)
            have HE := Lib.hid (urlF_spbad (out := x.data.toList) hsp hg1 hg2)
            have q1 : (hd (spaceF l') != 41) = true := by simp [hg2]
            have HG := Lib.hid hg1
            clear hc hne hg hg1 hg2
            go_wp2_with (first | (go_at_call 35; (with_reducible refine (peek0 hA).mono ?_); rintro e w' ⟨rfl, rfl⟩) | (go_at_call 35; (with_reducible refine (peek1 hA).mono ?_); rintro e w' ⟨rfl, rfl⟩) | (go_at_call 37; refine (isSpace_calls _ _).mono ?_; rintro e w' ⟨rfl, rfl⟩) | (go_at_call 92; refine (isUnprintable_calls _ _).mono ?_; rintro e w' ⟨rfl, rfl⟩) | (go_at_call 41; refine (escapes_calls _ _ _).mono ?_; rintro e w' ⟨rfl, rfl⟩))
            refine (spaces_sa hA).mono ?_
            rintro e w2 ⟨rfl, hA2⟩
            have q2 : (hd (spaceF l') != -1) = true := by have := hd_ne hA2.sfx.all HG.out; simp [this]
            go_wp2_with (go_at_call 35; (with_reducible refine (peek0 hA2).mono ?_); rintro e w' ⟨rfl, rfl⟩)
            refine (badURL_sa hA2).mono ?_
            rintro e w3 ⟨rfl, hA3⟩
            obtain ⟨d0, d1, d2, d3, d4, d5, f0⟩ := tok_blk hA3 hlt
            unfold tokV
            go_wp2
            refine bodyPost_ret (v := tokV { kind := 3 } 0 0) (by unfold tokV; simp [results, Tryz.results70, go_sem, d0, d1, d2, d3, d4, d5]) rfl ⟨?_, ?_⟩
            · exact ret_tok (by rw [← H1.out, HE.out])
            · refine SA.far6 ?_ (by omega) (by omega) _ _ _ _ _ _
              have a2 := H2.out
              have a3 := H3.out
              rw [HE.out] at a2 a3
              rw [← a2, ← a3]
              exact h9.from hA3
end Go.Proofs.YtedckphklebndaaGreatDoor
/- Small functions of the reference walked: identifies, counts, isURL, Trimmed. Conditions: Trimmed: a text of at most 2^42 bytes. -/
namespace Go.Proofs.YtedckphklebndaaGreatDoor
open Go Go.RowKit
set_option maxHeartbeats 2000000 in
theorem identifies_calls (a b c : Int) (w : World) : Calls Tryz.prog 42 #[.int .i64 a, .int .i64 b, .int .i64 c] w fun e w' => e = .returned (.bool (idnt a b c)) ∧ w = w' := by
  by_cases h1 : a = 45
  · subst h1
    have HE : Hid (idnt 45 b c = (strt b || b == 45 || escs b c)) := Lib.hid (by unfold idnt; rw [if_pos rfl])
    cases hs : strt b
    · cases hm : b == 45
      all_goals
        go_enter Tryz.func42, Tryz.ntmps42
        go_wp2_with (first | (go_at_call 67; refine (Starts_calls _ _).mono ?_; rintro e w' ⟨rfl, rfl⟩) | (go_at_call 41; refine (escapes_calls _ _ _).mono ?_; rintro e w' ⟨rfl, rfl⟩))
        go_ret
        exact ⟨ret_bool (by rw [HE.out, hs, hm]; simp), rfl⟩
    · go_enter Tryz.func42, Tryz.ntmps42
      go_wp2_with (first | (go_at_call 67; refine (Starts_calls _ _).mono ?_; rintro e w' ⟨rfl, rfl⟩) | (go_at_call 41; refine (escapes_calls _ _ _).mono ?_; rintro e w' ⟨rfl, rfl⟩))
      go_ret
      exact ⟨ret_bool (by rw [HE.out, hs]; simp), rfl⟩
  · have HE : Hid (idnt a b c = (strt a || escs a b)) := Lib.hid (by unfold idnt; rw [if_neg h1])
    have b1 : (a == 45) = false := by simp [h1]
    clear h1
    cases hs : strt a
    all_goals
      go_enter Tryz.func42, Tryz.ntmps42
      go_wp2_with (first | (go_at_call 67; refine (Starts_calls _ _).mono ?_; rintro e w' ⟨rfl, rfl⟩) | (go_at_call 41; refine (escapes_calls _ _ _).mono ?_; rintro e w' ⟨rfl, rfl⟩))
      go_ret
      exact ⟨ret_bool (by rw [HE.out, hs]; simp), rfl⟩
set_option maxHeartbeats 2000000 in
theorem counts_calls (a b c : Int) (w : World) : Calls Tryz.prog 44 #[.int .i64 a, .int .i64 b, .int .i64 c] w fun e w' => e = .returned (.bool (cnts a b c)) ∧ w = w' := by
  by_cases h1 : a = 43 ∨ a = 45
  · have HE : Hid (cnts a b c = (isDg b || b == 46 && isDg c)) := Lib.hid (by unfold cnts; rw [if_pos h1])
    have h2 : (a == 43) = true ∨ ((a == 43) = false ∧ (a == 45) = true) := by
      rcases h1 with rfl | rfl
      · exact .inl rfl
      · exact .inr ⟨rfl, rfl⟩
    clear h1
    rcases h2 with h2 | ⟨h2, h3⟩
    all_goals
      cases hs : isDg b
      · cases hm : b == 46
        all_goals
          go_enter Tryz.func44, Tryz.ntmps44
          go_wp2_with (go_at_call 68; refine (isDigit_calls _ _).mono ?_; rintro e w' ⟨rfl, rfl⟩)
          go_ret
          exact ⟨ret_bool (by rw [HE.out, hs, hm]; simp), rfl⟩
      · go_enter Tryz.func44, Tryz.ntmps44
        go_wp2_with (go_at_call 68; refine (isDigit_calls _ _).mono ?_; rintro e w' ⟨rfl, rfl⟩)
        go_ret
        exact ⟨ret_bool (by rw [HE.out, hs]; simp), rfl⟩
  · have HE : Hid (cnts a b c = (isDg a || a == 46 && isDg b)) := Lib.hid (by unfold cnts; rw [if_neg h1])
    have b1 : (a == 43) = false := by simp; exact fun q => h1 (.inl q)
    have b2 : (a == 45) = false := by simp; exact fun q => h1 (.inr q)
    clear h1
    cases hs : isDg a
    · cases hm : a == 46
      all_goals
        go_enter Tryz.func44, Tryz.ntmps44
        go_wp2_with (go_at_call 68; refine (isDigit_calls _ _).mono ?_; rintro e w' ⟨rfl, rfl⟩)
        go_ret
        exact ⟨ret_bool (by rw [HE.out, hs, hm]; simp), rfl⟩
    · go_enter Tryz.func44, Tryz.ntmps44
      go_wp2_with (go_at_call 68; refine (isDigit_calls _ _).mono ?_; rintro e w' ⟨rfl, rfl⟩)
      go_ret
      exact ⟨ret_bool (by rw [HE.out, hs]; simp), rfl⟩

/-! ### bytes of a string -/
theorem bt_list {s : ByteArray} {i : Nat} {b : UInt8} (h : s.data.toList[i]? = some b) : bt s i = (b.toNat : Int) := by
  unfold bt
  rw [← Lib.getD_get!']
  simp [List.getD, h]
theorem u8_beq (a b : UInt8) : (a == b) = (((a.toNat : Nat) : Int) == ((b.toNat : Nat) : Int)) := by
  rw [Bool.eq_iff_iff]
  simp only [beq_iff_eq]
  rw [Int.natCast_inj]
  exact ⟨fun h => by rw [h], fun h => UInt8.toNat_inj.1 h⟩
set_option maxRecDepth 100000 in
set_option maxHeartbeats 2000000 in
theorem isURL_calls (x : ByteArray) (w : World) : Calls Tryz.prog 26 #[.string x] w fun e w' => e = .returned (.bool (isUrl x.data.toList)) ∧ w = w' := by
  by_cases hl : x.size = 3
  · obtain ⟨a, b, c, hx⟩ : ∃ a b c, x.data.toList = [a, b, c] := by
      rw [Lib.size_eq] at hl
      match h : x.data.toList, hl with
      | [a, b, c], _ => exact ⟨a, b, c, rfl⟩
    have h0 := bt_at x 0
    have h1 := bt_at x 1
    have h2 := bt_at x 2
    have e0 := bt_list (s := x) (i := 0) (b := a) (by rw [hx]; rfl)
    have e1 := bt_list (s := x) (i := 1) (b := b) (by rw [hx]; rfl)
    have e2 := bt_list (s := x) (i := 2) (b := c) (by rw [hx]; rfl)
    have HE : Hid (isUrl x.data.toList = ((bt x 0 == 117 || bt x 0 == 85) && (bt x 1 == 114 || bt x 1 == 82) && (bt x 2 == 108 || bt x 2 == 76))) := Lib.hid (by
      rw [hx, e0, e1, e2]
      simp only [isUrl, u8_beq]
      rfl)
    clear e0 e1 e2 hx
    have tri : ∀ p q : Bool, p = true ∨ (p = false ∧ q = true) ∨ (p = false ∧ q = false) := by decide
    rcases tri (bt x 0 == 117) (bt x 0 == 85) with p1 | ⟨p1, p2⟩ | ⟨p1, p2⟩
    all_goals rcases tri (bt x 1 == 114) (bt x 1 == 82) with p3 | ⟨p3, p4⟩ | ⟨p3, p4⟩
    all_goals rcases tri (bt x 2 == 108) (bt x 2 == 76) with p5 | ⟨p5, p6⟩ | ⟨p5, p6⟩
    all_goals
      clear tri
      go_enter Tryz.func26, Tryz.ntmps26
      go_wp2
      go_ret
      exact ⟨ret_bool (by rw [HE.out]; simp only [*, Bool.true_or, Bool.false_or, Bool.and_false, Bool.and_true]), rfl⟩
  · have HE : Hid (isUrl x.data.toList = false) := by
      rw [Lib.size_eq] at hl
      unfold isUrl
      split
      · rename_i h; exact absurd (by rw [h]; rfl) hl
      · exact Lib.hid rfl
    have b1 : ((x.size : Int) == 3) = false := by simp; omega
    go_enter Tryz.func26, Tryz.ntmps26
    go_wp2
    go_ret
    exact ⟨ret_bool HE.out.symm, rfl⟩

theorem spB_int (b : UInt8) : isSp (b.toNat : Int) = spB b := by
  have : ∀ n : Fin 256, isSp ((UInt8.ofNat n.val).toNat : Int) = spB (UInt8.ofNat n.val) := by decide +kernel
  have h := this ⟨b.toNat, b.toNat_lt⟩
  simpa using h
set_option maxRecDepth 100000 in
set_option maxHeartbeats 2000000 in
theorem Trimmed_calls (x : ByteArray) (hs : x.size ≤ 4398046511104) (w : World) : Calls Tryz.prog 71 #[.string x] w fun e w' => e = .returned (.bool (trimB x.data.toList)) ∧ w = w' := by
  cases hx : x.data.toList with
  | nil =>
    have h1 : x.toList = [] := by rw [Lib.toList_data]; exact hx
    go_enter Tryz.func71, Tryz.ntmps71
    go_wp2
    go_ret
    exact ⟨rfl, rfl⟩
  | cons b t =>
    have h1 : x.toList.isEmpty = false := by rw [Lib.toList_data, hx]; rfl
    have h2 : (!x.toList.isEmpty) = true := by rw [h1]; rfl
    have h3 : 0 < x.size := by rw [Lib.size_eq, hx]; simp
    have h4 : (0 : Int) < (x.size : Int) := by omega
    have e0 := bt_list (s := x) (i := 0) (b := b) (by rw [hx]; rfl)
    have e1 := bt_list (s := x) (i := x.size - 1) (b := (b :: t).getLastD 0) (by
      rw [hx, Lib.size_eq, hx]
      rw [List.getLastD_eq_getLast?, List.getLast?_eq_getElem?]
      simp)
    have i0 := bt_at x 0
    have i1 := bt_at x (x.size - 1)
    have r0 := bt_range x 0
    have r1 := bt_range x (x.size - 1)
    have s0 := spB_int b
    have s1 := spB_int ((b :: t).getLastD 0)
    rw [← e0] at s0
    rw [← e1] at s1
    have HE : Hid (trimB (b :: t) = (!isSp (bt x 0) && !isSp (bt x (x.size - 1)))) := Lib.hid (by rw [s0, s1]; simp [trimB])
    clear s0 s1 e0 e1 hx
    have h5 : ((x.size : Int) - 1).toNat = x.size - 1 := by omega
    have hcast : ((x.size : Int) - 1) = ((x.size - 1 : Nat) : Int) := by omega
    cases q0 : isSp (bt x 0)
    · cases q1 : isSp (bt x (x.size - 1))
      all_goals
        go_enter Tryz.func71, Tryz.ntmps71
        go_wp2_with (go_at_call 37; refine (isSpace_calls _ _).mono ?_; rintro e w' ⟨rfl, rfl⟩)
        go_ret
        exact ⟨ret_bool (by rw [HE.out, q0, q1]; rfl), rfl⟩
    · go_enter Tryz.func71, Tryz.ntmps71
      go_wp2_with (go_at_call 37; refine (isSpace_calls _ _).mono ?_; rintro e w' ⟨rfl, rfl⟩)
      go_ret
      exact ⟨ret_bool (by rw [HE.out, q0]; rfl), rfl⟩
end Go.Proofs.YtedckphklebndaaGreatDoor
/- The reference's named, walked. Conditions: those of the lexer in memory (SA). -/
namespace Go.Proofs.YtedckphklebndaaGreatDoor
open Go Go.RowKit
theorem ps_gap {s : ByteArray} {l r : List Int} (h : Sfx s l) (k : Sfx s r) : (ps s r : Int) - ps s l = (encs l).length - (encs r).length := by
  have := h.fits; have := k.fits; unfold ps; omega
theorem urlF_text (l : List Int) : ∀ out, (urlF out l).1.text.length ≤ out.length + 4 * l.length := by
  induction hn : l.length using Nat.strongRecOn generalizing l with
  | _ n ih =>
    intro out
    cases l with
    | nil => rw [urlF]; simp
    | cons c t =>
      have e1 := enc_len c
      have e2 := enc_len (escF t).1
      have e3 := escF_le t
      simp only [List.length_cons] at hn
      rw [urlF]
      split
      · simp
      · split
        · split
          · simp
          · split <;> simp
        · split
          · simp
          · split
            · have := ih (escF t).2.1.length (by omega) _ rfl (out ++ enc (escF t).1)
              simp only [List.length_append] at this
              show (urlF (out ++ enc (escF t).1) (escF t).2.1).1.text.length ≤ _
              omega
            · have := ih t.length (by omega) t rfl (out ++ enc c)
              simp only [List.length_append] at this
              omega
set_option maxRecDepth 100000 in
set_option maxHeartbeats 4000000 in
theorem named_sa {w0 w : World} {g : Nat} {s : ByteArray} {l : List Int} {v : Value} {o : Bool} (h : SA w0 w g s l v o) :
    Calls Tryz.prog 46 #[.pointer (some ⟨g, 0, none⟩)] w fun e w' => e = .returned (tokV (namedF l).1 0 0) ∧ SA w0 w' g s (namedF l).2.1 v (o || (namedF l).2.2) := by
  have hA0 : SA (wT w) (wT w) g s l v o := (h.alloc _).now
  have hlt := h.lt
  have hsz := h.kp.size
  have HN := Lib.hid h.len
  have h9 := h.alloc (.cells #[.int .i64 0, .int .i64 0, .int .i64 0, .int .i64 0, .bool false, .string ⟨#[]⟩] 42)
  have c1 := hA0.sl.c1
  have b1 := ps_le s l
  have b2 := hA0.size
  have HT := Lib.hid (nameF_text l)
  go_enter Tryz.func46, Tryz.ntmps46
  go_wp2_with fail
  refine (name_sa hA0).mono ?_
  rintro e w1 ⟨rfl, hA1⟩
  have c1' := hA1.sl.c1
  have b3 := ps_le s (nameF l).2.1
  have HG := Lib.hid (ps_gap hA0.sfx hA1.sfx)
  obtain ⟨r, hr⟩ : ∃ r, (nameF l).2.1 = r := ⟨_, rfl⟩
  obtain ⟨tx, htx⟩ : ∃ r, (nameF l).1 = r := ⟨_, rfl⟩
  obtain ⟨oo, hoo⟩ : ∃ r, (nameF l).2.2 = r := ⟨_, rfl⟩
  rw [hr] at hA1 c1' b3 HG
  rw [hoo] at hA1
  rw [htx] at HT ⊢
  have HR := Lib.hid hr
  have HX := Lib.hid htx
  have HO := Lib.hid hoo
  clear hr htx hoo
  by_cases hp : hd r = 40
  · have q1 : (hd r != 40) = false := by simp [hp]
    by_cases hu : isUrl tx = true ∧ hd (spaceF r.tail) ≠ 34 ∧ hd (spaceF r.tail) ≠ 39
    · obtain ⟨k1, k2, k3⟩ := hu
      have HE : Hid (namedF l = ((urlF [] (spaceF r.tail)).1, (urlF [] (spaceF r.tail)).2.1, oo || (urlF [] (spaceF r.tail)).2.2 || !((encs l).length == (encs r).length + 3) || !trimB (urlF [] (spaceF r.tail)).1.text)) := Lib.hid (by
        unfold namedF
        rw [HR.out, HX.out, HO.out, if_pos hp, if_pos ⟨k1, k2, k3⟩])
      have q2 : (hd (spaceF r.tail) != 34) = true := by simp [k2]
      have q3 : (hd (spaceF r.tail) != 39) = true := by simp [k3]
      have hsh : ((ps s r : Int) - (ps s l : Int) == 3) = ((encs l).length == (encs r).length + 3) := by
        rw [HG.out, Bool.eq_iff_iff]; simp; omega
      clear hp k2 k3
      obtain ⟨sh, hshq⟩ : ∃ sh, ((encs l).length == (encs r).length + 3) = sh := ⟨_, rfl⟩
      rw [hshq] at hsh HE
      clear hshq
      go_wp2_with ((go_at_call 35; (with_reducible refine (peek0 hA1).mono ?_); rintro e w' ⟨rfl, rfl⟩))
      refine (take_sa hA1).mono ?_
      rintro e w2 ⟨rfl, hA2⟩
      have c1'' := hA2.sl.c1
      go_wp2_with ((go_at_call 26; refine (isURL_calls _ _).mono ?_; rintro e w' ⟨rfl, rfl⟩))
      go_loopg [] r.tail.length (fun k wr => WH isSp (wT w) g s r.tail v (o || oo) k wr)
      case atStart => exact ⟨r.tail, rfl, rfl, hA2⟩
      case round =>
        obtain ⟨l', hk, hd', hA⟩ := hrel
        have HK := Lib.hid hk
        have HD := Lib.hid hd'
        clear hk hd'
        cases ht : isSp (hd l')
        · have HE1 := Lib.hid (dropWhile_stop ht)
          have e1 : l' = spaceF r.tail := by unfold spaceF; rw [← HD.out, HE1.out]
          subst e1
          have HU : Hid ((urlF [] (spaceF r.tail)).1.text.length ≤ 4398046511104) := by
            have := urlF_text (spaceF r.tail) []
            have := hA.len
            simp only [List.length_nil] at *
            exact Lib.hid (by omega)
          go_wp2_with (first | (go_at_call 35; (with_reducible refine (peek0 hA).mono ?_); rintro e w' ⟨rfl, rfl⟩) | (go_at_call 37; refine (isSpace_calls _ _).mono ?_; rintro e w' ⟨rfl, rfl⟩))
          refine (url_sa hA).mono ?_
          rintro e w3 ⟨rfl, hA3⟩
          obtain ⟨U, hU⟩ : ∃ U, (urlF [] (spaceF r.tail)).1 = U := ⟨_, rfl⟩
          obtain ⟨ux, hux⟩ : ∃ U, (o || oo || (urlF [] (spaceF r.tail)).2.2) = U := ⟨_, rfl⟩
          rw [hU] at HE HU ⊢
          rw [hux] at hA3
          have HX2 := Lib.hid hux
          have HU2 := Lib.hid hU
          clear hux hU
          have hlt3 := hA3.lt
          have hge3 : w.heap.size < w3.heap.size := by have := hA3.kp.size; simp at this; omega
          have c3 := hA3.sl.c3
          have f3 := blk_frozen hA3.sl 3
          obtain ⟨d0, d1, d2, d3, d4, d5, f0⟩ := tok_blk hA3 hlt
          have hA4 := hA3.alloc (.cells #[.int .i64 U.kind, .int .i64 0, .int .i64 0, .int .i64 U.unit, .bool U.id, .string ⟨U.text.toArray⟩] 42)
          unfold tokV
          cases ux
          · cases sh
            · go_wp2
              refine bodyPost_ret (v := tokV U 0 0) (by unfold tokV; simp [results, Tryz.results46, go_sem, d0, d1, d2, d3, d4, d5, hge3]) rfl ⟨?_, ?_⟩
              · exact ret_tok (by rw [HE.out])
              · refine SA.alloc ?_ _
                refine SA.far6 ?_ (by omega) (by omega) _ _ _ _ _ _
                have hA5 : SA (wT w) (w3.setCell ⟨g, 3, none⟩ (.bool true)) g s (urlF [] (spaceF r.tail)).2.1 v true := ⟨hA3.sl.set3 true, hA3.sfx, hA3.kp.setCell (fun _ => rfl) _, hA3.size⟩
                rw [HE.out]
                have e9 : (o || (oo || (urlF [] (spaceF r.tail)).2.2 || !false || !trimB U.text)) = true := by
                  have e8 := HX2.out
                  simp
                rw [e9]
                exact h9.from hA5
            · have hty : (⟨U.text.toArray⟩ : ByteArray).size ≤ 4398046511104 := by have := HU.out; simpa [ByteArray.size] using this
              cases htr : trimB U.text
              · go_wp2_with (go_at_call 71; refine (Trimmed_calls _ hty _).mono ?_; rintro e w' ⟨rfl, rfl⟩)
                refine bodyPost_ret (v := tokV U 0 0) (by unfold tokV; simp [results, Tryz.results46, go_sem, d0, d1, d2, d3, d4, d5, hge3]) rfl ⟨?_, ?_⟩
                · exact ret_tok (by rw [HE.out])
                · refine SA.alloc ?_ _
                  refine SA.far6 ?_ (by omega) (by omega) _ _ _ _ _ _
                  have hA5 : SA (wT w) (w3.setCell ⟨g, 3, none⟩ (.bool true)) g s (urlF [] (spaceF r.tail)).2.1 v true := ⟨hA3.sl.set3 true, hA3.sfx, hA3.kp.setCell (fun _ => rfl) _, hA3.size⟩
                  rw [HE.out]
                  have e9 : (o || (oo || (urlF [] (spaceF r.tail)).2.2 || !true || !trimB U.text)) = true := by
                    have e8 := HX2.out
                    rw [htr]; simp
                  rw [e9]
                  exact h9.from hA5
              · go_wp2_with (go_at_call 71; refine (Trimmed_calls _ hty _).mono ?_; rintro e w' ⟨rfl, rfl⟩)
                refine bodyPost_ret (v := tokV U 0 0) (by unfold tokV; simp [results, Tryz.results46, go_sem, d0, d1, d2, d3, d4, d5, hge3]) rfl ⟨?_, ?_⟩
                · exact ret_tok (by rw [HE.out])
                · refine SA.alloc ?_ _
                  refine SA.far6 ?_ (by omega) (by omega) _ _ _ _ _ _
                  have hA5 : SA (wT w) (w3.setCell ⟨g, 3, none⟩ (.bool false)) g s (urlF [] (spaceF r.tail)).2.1 v false := ⟨hA3.sl.set3 false, hA3.sfx, hA3.kp.setCell (fun _ => rfl) _, hA3.size⟩
                  rw [HE.out]
                  have e9 : (o || (oo || (urlF [] (spaceF r.tail)).2.2 || !true || !trimB U.text)) = false := by
                    have e8 := HX2.out
                    rw [htr]; revert e8; cases o <;> cases oo <;> cases (urlF [] (spaceF r.tail)).2.2 <;> simp
                  rw [e9]
                  exact h9.from hA5
          · go_wp2
            refine bodyPost_ret (v := tokV U 0 0) (by unfold tokV; simp [results, Tryz.results46, go_sem, d0, d1, d2, d3, d4, d5, hge3]) rfl ⟨?_, ?_⟩
            · exact ret_tok (by rw [HE.out])
            · refine SA.alloc ?_ _
              refine SA.far6 ?_ (by omega) (by omega) _ _ _ _ _ _
              have hA5 : SA (wT w) (w3.setCell ⟨g, 3, none⟩ (.bool true)) g s (urlF [] (spaceF r.tail)).2.1 v true := ⟨hA3.sl.set3 true, hA3.sfx, hA3.kp.setCell (fun _ => rfl) _, hA3.size⟩
              rw [HE.out]
              have e9 : (o || (oo || (urlF [] (spaceF r.tail)).2.2 || !sh || !trimB U.text)) = true := by
                have e8 := HX2.out
                revert e8; cases o <;> cases oo <;> cases (urlF [] (spaceF r.tail)).2.2 <;> simp
              rw [e9]
              exact h9.from hA5
        · have HE1 := Lib.hid (dropWhile_go isSp_end ht)
          go_wp2_with (first | (go_at_call 35; (with_reducible refine (peek0 hA).mono ?_); rintro e w' ⟨rfl, rfl⟩) | (go_at_call 37; refine (isSpace_calls _ _).mono ?_; rintro e w' ⟨rfl, rfl⟩) | (go_at_call 36; refine (take_sa hA).mono ?_; rintro e w' ⟨rfl, hA3⟩))
          go_roundg l'.tail.length
          case measure => rw [← HK.out]; exact HE1.out.2
          case rel => exact ⟨l'.tail, rfl, by rw [← HE1.out.1]; exact HD.out, hA3⟩
    · have HE : Hid (namedF l = ({ kind := 27, text := tx }, r.tail, oo)) := Lib.hid (by
        unfold namedF
        rw [HR.out, HX.out, HO.out, if_pos hp, if_neg hu])
      have hu2 : isUrl tx = false ∨ (isUrl tx = true ∧ (((hd (spaceF r.tail) != 34) = false) ∨ ((hd (spaceF r.tail) != 34) = true ∧ (hd (spaceF r.tail) != 39) = false))) := by
        cases k1 : isUrl tx
        · exact .inl rfl
        · by_cases k2 : hd (spaceF r.tail) = 34
          · rw [k2]; exact .inr ⟨rfl, .inl rfl⟩
          · by_cases k3 : hd (spaceF r.tail) = 39
            · rw [k3]; exact .inr ⟨rfl, .inr ⟨rfl, rfl⟩⟩
            · exact absurd ⟨k1, k2, k3⟩ hu
      clear hp hu
      rcases hu2 with k1 | ⟨k1, k2⟩
      · go_wp2_with ((go_at_call 35; (with_reducible refine (peek0 hA1).mono ?_); rintro e w' ⟨rfl, rfl⟩))
        refine (take_sa hA1).mono ?_
        rintro e w2 ⟨rfl, hA2⟩
        obtain ⟨d0, d1, d2, d3, d4, d5, f0⟩ := tok_blk hA2 hlt
        go_wp2_with ((go_at_call 26; refine (isURL_calls _ _).mono ?_; rintro e w' ⟨rfl, rfl⟩))
        refine bodyPost_ret (v := tokV { kind := 27, text := tx } 0 0) (by unfold tokV; simp [results, Tryz.results46, go_sem, d0, d1, d2, d3, d4, d5]) rfl ⟨?_, ?_⟩
        · exact ret_tok (by rw [HE.out])
        · refine SA.far6 ?_ (by omega) (by omega) _ _ _ _ _ _
          rw [HE.out]
          exact h9.from hA2
      · rcases k2 with k2 | ⟨k2, k3⟩
        all_goals
          go_wp2_with ((go_at_call 35; (with_reducible refine (peek0 hA1).mono ?_); rintro e w' ⟨rfl, rfl⟩))
          refine (take_sa hA1).mono ?_
          rintro e w2 ⟨rfl, hA2⟩
          have c1'' := hA2.sl.c1
          go_wp2_with ((go_at_call 26; refine (isURL_calls _ _).mono ?_; rintro e w' ⟨rfl, rfl⟩))
          go_loopg [] r.tail.length (fun k wr => WH isSp (wT w) g s r.tail v (o || oo) k wr)
          case atStart => exact ⟨r.tail, rfl, rfl, hA2⟩
          case round =>
            obtain ⟨l', hk, hd', hA⟩ := hrel
            have HK := Lib.hid hk
            have HD := Lib.hid hd'
            clear hk hd'
            cases ht : isSp (hd l')
            · have HE1 := Lib.hid (dropWhile_stop ht)
              have e1 : l' = spaceF r.tail := by unfold spaceF; rw [← HD.out, HE1.out]
              subst e1
              have hA3 : SA (wT w) (wr.setCell ⟨g, 1, none⟩ (.int .i64 (ps s r.tail))) g s r.tail v (o || oo) := ⟨hA.sl.set1 r.tail rfl, hA2.sfx, hA.kp.setCell (fun _ => rfl) _, hA.size⟩
              have f1 := blk_frozen hA.sl 1
              have c1x := hA.sl.c1
              obtain ⟨d0, d1, d2, d3, d4, d5, f0⟩ := tok_blk hA hlt
              go_wp2_with (first | (go_at_call 35; (with_reducible refine (peek0 hA).mono ?_); rintro e w' ⟨rfl, rfl⟩) | (go_at_call 37; refine (isSpace_calls _ _).mono ?_; rintro e w' ⟨rfl, rfl⟩))
              refine bodyPost_ret (v := tokV { kind := 27, text := tx } 0 0) (by unfold tokV; simp [results, Tryz.results46, go_sem, d0, d1, d2, d3, d4, d5]) rfl ⟨?_, ?_⟩
              · exact ret_tok (by rw [HE.out])
              · refine SA.far6 ?_ (by omega) (by omega) _ _ _ _ _ _
                rw [HE.out]
                exact h9.from hA3
            · have HE1 := Lib.hid (dropWhile_go isSp_end ht)
              go_wp2_with (first | (go_at_call 35; (with_reducible refine (peek0 hA).mono ?_); rintro e w' ⟨rfl, rfl⟩) | (go_at_call 37; refine (isSpace_calls _ _).mono ?_; rintro e w' ⟨rfl, rfl⟩) | (go_at_call 36; refine (take_sa hA).mono ?_; rintro e w' ⟨rfl, hA3⟩))
              go_roundg l'.tail.length
              case measure => rw [← HK.out]; exact HE1.out.2
              case rel => exact ⟨l'.tail, rfl, by rw [← HE1.out.1]; exact HD.out, hA3⟩
  · have HE : Hid (namedF l = ({ kind := 29, text := tx }, r, oo)) := Lib.hid (by
      unfold namedF
      rw [HR.out, HX.out, HO.out, if_neg hp])
    have q1 : (hd r != 40) = true := by simp [hp]
    clear hp
    obtain ⟨d0, d1, d2, d3, d4, d5, f0⟩ := tok_blk hA1 hlt
    go_wp2_with ((go_at_call 35; (with_reducible refine (peek0 hA1).mono ?_); rintro e w' ⟨rfl, rfl⟩))
    refine bodyPost_ret (v := tokV { kind := 29, text := tx } 0 0) (by unfold tokV; simp [results, Tryz.results46, go_sem, d0, d1, d2, d3, d4, d5]) rfl ⟨?_, ?_⟩
    · exact ret_tok (by rw [HE.out])
    · refine SA.far6 ?_ (by omega) (by omega) _ _ _ _ _ _
      rw [HE.out]
      exact h9.from hA1
end Go.Proofs.YtedckphklebndaaGreatDoor
