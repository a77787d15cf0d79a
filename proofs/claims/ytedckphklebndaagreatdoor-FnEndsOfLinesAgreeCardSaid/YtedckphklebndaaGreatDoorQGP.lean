/- The reference's sign, walked. Conditions: those of the lexer in memory (SA). -/
import Derived.Test.YtedckphklebndaaGreatDoorQO
import Derived.Deep.RegionHeld3
import Derived.Deep.AppendLies
import Derived.Deep.RegionLaw
import Derived.StillTactics
import Derived.OwnWalk
import Derived.KernelRfl
import Derived.Test.YtedckphklebndaaGreatDoorQGA
namespace Go.Proofs.YtedckphklebndaaGreatDoor
open Go Go.RowKit
set_option maxRecDepth 100000 in
set_option maxHeartbeats 8000000 in
theorem sign_sa {w0 w : World} {g : Nat} {s : ByteArray} {c : Int} {l : List Int} {v : Value} {o : Bool} (h : SA w0 w g s (c :: l) v o) :
    Calls Tryz.prog 47 #[.pointer (some ⟨g, 0, none⟩)] w fun e w' => e = .returned (tokV { kind := signK c } 0 0) ∧ SA w0 w' g s l v o := by
  have hA0 : SA (wT w) (wT w) g s (c :: l) v o := (h.alloc _).now
  have hlt := h.lt
  have hsz := h.kp.size
  have h9 := h.alloc (.cells #[.int .i64 0, .int .i64 0, .int .i64 0, .int .i64 0, .bool false, .string ⟨#[]⟩] 42)
  by_cases hc : c = 123 ∨ c = 125 ∨ c = 91 ∨ c = 93 ∨ c = 40 ∨ c = 41 ∨ c = 58 ∨ c = 59 ∨ c = 44 ∨ c = 38 ∨ c = 42 ∨ c = 124 ∨ c = 94 ∨ c = 36 ∨ c = 46 ∨ c = 61 ∨ c = 33 ∨ c = 62 ∨ c = 60 ∨ c = 45 ∨ c = 43 ∨ c = 47 ∨ c = 126
  · rcases hc with rfl | rfl | rfl | rfl | rfl | rfl | rfl | rfl | rfl | rfl | rfl | rfl | rfl | rfl | rfl | rfl | rfl | rfl | rfl | rfl | rfl | rfl | rfl
    all_goals
      go_enter Tryz.func47, Tryz.ntmps47
      go_wp2_with fail
      refine (take_sa hA0).mono ?_
      rintro e w1 ⟨rfl, hA1⟩
      obtain ⟨d0, d1, d2, d3, d4, d5, f0⟩ := tok_blk hA1 hlt
      simp only [hd_cons, List.tail_cons] at hA1 ⊢
      go_wp2
      refine bodyPost_ret (v := tokV { kind := signK _ } 0 0) (by unfold tokV; simp [results, Tryz.results47, go_sem, d0, d1, d2, d3, d4, d5]; rfl) rfl ⟨rfl, ?_⟩
      refine SA.far6 ?_ (by omega) (by omega) _ _ _ _ _ _
      exact h9.from hA1
  · have HE : Hid (signK c = 11) := Lib.hid (by unfold signK; repeat' rw [if_neg (fun e => hc (by simp [e]))])
    have b123 : (c == 123) = false := by simp; exact fun e => hc (by simp [e])
    have b125 : (c == 125) = false := by simp; exact fun e => hc (by simp [e])
    have b91 : (c == 91) = false := by simp; exact fun e => hc (by simp [e])
    have b93 : (c == 93) = false := by simp; exact fun e => hc (by simp [e])
    have b40 : (c == 40) = false := by simp; exact fun e => hc (by simp [e])
    have b41 : (c == 41) = false := by simp; exact fun e => hc (by simp [e])
    have b58 : (c == 58) = false := by simp; exact fun e => hc (by simp [e])
    have b59 : (c == 59) = false := by simp; exact fun e => hc (by simp [e])
    have b44 : (c == 44) = false := by simp; exact fun e => hc (by simp [e])
    have b38 : (c == 38) = false := by simp; exact fun e => hc (by simp [e])
    have b42 : (c == 42) = false := by simp; exact fun e => hc (by simp [e])
    have b124 : (c == 124) = false := by simp; exact fun e => hc (by simp [e])
    have b94 : (c == 94) = false := by simp; exact fun e => hc (by simp [e])
    have b36 : (c == 36) = false := by simp; exact fun e => hc (by simp [e])
    have b46 : (c == 46) = false := by simp; exact fun e => hc (by simp [e])
    have b61 : (c == 61) = false := by simp; exact fun e => hc (by simp [e])
    have b33 : (c == 33) = false := by simp; exact fun e => hc (by simp [e])
    have b62 : (c == 62) = false := by simp; exact fun e => hc (by simp [e])
    have b60 : (c == 60) = false := by simp; exact fun e => hc (by simp [e])
    have b45 : (c == 45) = false := by simp; exact fun e => hc (by simp [e])
    have b43 : (c == 43) = false := by simp; exact fun e => hc (by simp [e])
    have b47 : (c == 47) = false := by simp; exact fun e => hc (by simp [e])
    have b126 : (c == 126) = false := by simp; exact fun e => hc (by simp [e])
    clear hc
    go_enter Tryz.func47, Tryz.ntmps47
    go_wp2_with fail
    refine (take_sa hA0).mono ?_
    rintro e w1 ⟨rfl, hA1⟩
    obtain ⟨d0, d1, d2, d3, d4, d5, f0⟩ := tok_blk hA1 hlt
    simp only [hd_cons, List.tail_cons] at hA1 ⊢
    go_wp2
    refine bodyPost_ret (v := tokV { kind := 11 } 0 0) (by unfold tokV; simp [results, Tryz.results47, go_sem, d0, d1, d2, d3, d4, d5]) rfl ⟨ret_tok (by rw [HE.out]), ?_⟩
    refine SA.far6 ?_ (by omega) (by omega) _ _ _ _ _ _
    exact h9.from hA1
end Go.Proofs.YtedckphklebndaaGreatDoor
/- The reference's next, walked. Conditions: those of the lexer in memory (SA). -/
namespace Go.Proofs.YtedckphklebndaaGreatDoor
open Go Go.RowKit
theorem ps_ascii {s : ByteArray} {l : List Int} (h : Sfx s l) (h0 : 0 ≤ hd l) (h1 : hd l < 128) : ps s l.tail = ps s l + 1 := by
  cases l with
  | nil => simp at h0
  | cons c t => simp only [hd_cons] at h0 h1; rw [List.tail_cons, ps_cons h, wd_one h0 h1]
theorem pk_tail (l : List Int) (k : Nat) : pk l.tail k = pk l (k + 1) := by
  cases l with
  | nil => simp
  | cons c t => simp
theorem pk_two (l : List Int) : pk l 2 = hd l.tail.tail := by rw [← pk_tail, pk_one]
theorem pk_three (l : List Int) : pk l 3 = hd l.tail.tail.tail := by rw [← pk_tail, pk_two]
theorem drop3 (l : List Int) : l.drop 3 = l.tail.tail.tail := by rw [show 3 = 1 + 2 from rfl, ← List.drop_drop, drop2]; simp
theorem drop4 (l : List Int) : l.drop 4 = l.tail.tail.tail.tail := by rw [show 4 = 1 + 3 from rfl, ← List.drop_drop, drop3]; simp
theorem ps_drop3 {s : ByteArray} {l : List Int} (h : Sfx s l) (h0 : 0 ≤ hd l ∧ hd l < 128) (h1 : 0 ≤ pk l 1 ∧ pk l 1 < 128) (h2 : 0 ≤ pk l 2 ∧ pk l 2 < 128) : ps s (l.drop 3) = ps s l + 3 := by
  rw [pk_one] at h1
  rw [pk_two] at h2
  rw [drop3, ps_ascii h.tl.tl h2.1 h2.2, ps_ascii h.tl h1.1 h1.2, ps_ascii h h0.1 h0.2]
theorem ps_drop4 {s : ByteArray} {l : List Int} (h : Sfx s l) (h0 : 0 ≤ hd l ∧ hd l < 128) (h1 : 0 ≤ pk l 1 ∧ pk l 1 < 128) (h2 : 0 ≤ pk l 2 ∧ pk l 2 < 128) (h3 : 0 ≤ pk l 3 ∧ pk l 3 < 128) : ps s (l.drop 4) = ps s l + 4 := by
  rw [pk_three] at h3
  have := ps_drop3 h h0 h1 h2
  rw [drop3] at this
  rw [drop4, ps_ascii h.tl.tl.tl h3.1 h3.2, this]
theorem sign_sa2 {w0 w : World} {g : Nat} {s : ByteArray} {l : List Int} {v : Value} {o : Bool} (h : SA w0 w g s l v o) (hn : l ≠ []) :
    Calls Tryz.prog 47 #[.pointer (some ⟨g, 0, none⟩)] w fun e w' => e = .returned (tokV { kind := signK (hd l) } 0 0) ∧ SA w0 w' g s l.tail v o := by
  cases l with
  | nil => exact absurd rfl hn
  | cons c t => exact sign_sa h
set_option maxRecDepth 100000 in
set_option maxHeartbeats 4000000 in
theorem next_sa {w0 w : World} {g : Nat} {s : ByteArray} {l : List Int} {v : Value} {o : Bool} (h : SA w0 w g s l v o) :
    Calls Tryz.prog 29 #[.pointer (some ⟨g, 0, none⟩)] w fun e w' => e = .returned (tokV (nextF l).1 0 0) ∧ SA w0 w' g s (nextF l).2.1 v (o || (nextF l).2.2) := by
  have hA0 : SA (wT w) (wT w) g s l v o := (h.alloc _).now
  have hlt := h.lt
  have hsz := h.kp.size
  have h9 := h.alloc (.cells #[.int .i64 0, .int .i64 0, .int .i64 0, .int .i64 0, .bool false, .string ⟨#[]⟩] 42)
  by_cases hn : l = []
  · subst hn
    have HE : Hid (nextF [] = ({ kind := 0 }, [], false)) := Lib.hid (by unfold nextF; rw [if_pos rfl])
    obtain ⟨d0, d1, d2, d3, d4, d5, f0⟩ := tok_blk hA0 hlt
    go_enter Tryz.func29, Tryz.ntmps29
    go_wp2_with (first | (go_at_call 35; (with_reducible refine (peek0 hA0).mono ?_); rintro e w' ⟨rfl, rfl⟩) | (go_at_call 35; (with_reducible refine (peek1 hA0).mono ?_); rintro e w' ⟨rfl, rfl⟩) | (go_at_call 35; (with_reducible refine (peek2 hA0).mono ?_); rintro e w' ⟨rfl, rfl⟩) | (go_at_call 35; (with_reducible refine (peek3 hA0).mono ?_); rintro e w' ⟨rfl, rfl⟩) | (go_at_call 37; refine (isSpace_calls _ _).mono ?_; rintro e w' ⟨rfl, rfl⟩) | (go_at_call 40; refine (Continues_calls _ _).mono ?_; rintro e w' ⟨rfl, rfl⟩) | (go_at_call 41; refine (escapes_calls _ _ _).mono ?_; rintro e w' ⟨rfl, rfl⟩) | (go_at_call 44; refine (counts_calls _ _ _ _).mono ?_; rintro e w' ⟨rfl, rfl⟩) | (go_at_call 42; refine (identifies_calls _ _ _ _).mono ?_; rintro e w' ⟨rfl, rfl⟩))
    refine bodyPost_ret (v := tokV { kind := 0 } 0 0) (by unfold tokV; simp [results, Tryz.results29, go_sem, d0, d1, d2, d3, d4, d5]) rfl ⟨?_, ?_⟩
    · exact ret_tok (by rw [HE.out])
    · rw [HE.out]
      simpa using h9
  have hne := hd_ne h.sfx.all hn
  have b0 : (hd l == -1) = false := by simp [hne]
  have HN := Lib.hid hn
  cases hsp : isSp (hd l)
  case true =>
    have HE : Hid (nextF l = ({ kind := 38 }, spaceF l, false)) := Lib.hid (by unfold nextF; rw [if_neg hn, hsp, if_pos rfl])
    clear hne hn
    go_enter Tryz.func29, Tryz.ntmps29
    go_wp2_with (first | (go_at_call 35; (with_reducible refine (peek0 hA0).mono ?_); rintro e w' ⟨rfl, rfl⟩) | (go_at_call 35; (with_reducible refine (peek1 hA0).mono ?_); rintro e w' ⟨rfl, rfl⟩) | (go_at_call 35; (with_reducible refine (peek2 hA0).mono ?_); rintro e w' ⟨rfl, rfl⟩) | (go_at_call 35; (with_reducible refine (peek3 hA0).mono ?_); rintro e w' ⟨rfl, rfl⟩) | (go_at_call 37; refine (isSpace_calls _ _).mono ?_; rintro e w' ⟨rfl, rfl⟩) | (go_at_call 40; refine (Continues_calls _ _).mono ?_; rintro e w' ⟨rfl, rfl⟩) | (go_at_call 41; refine (escapes_calls _ _ _).mono ?_; rintro e w' ⟨rfl, rfl⟩) | (go_at_call 44; refine (counts_calls _ _ _ _).mono ?_; rintro e w' ⟨rfl, rfl⟩) | (go_at_call 42; refine (identifies_calls _ _ _ _).mono ?_; rintro e w' ⟨rfl, rfl⟩))
    refine (spaces_sa hA0).mono ?_
    rintro e w2 ⟨rfl, hA2⟩
    obtain ⟨d0, d1, d2, d3, d4, d5, f0⟩ := tok_blk hA2 hlt
    go_wp2
    refine bodyPost_ret (v := tokV { kind := 38 } 0 0) (by unfold tokV; simp [results, Tryz.results29, go_sem, d0, d1, d2, d3, d4, d5]) rfl ⟨?_, ?_⟩
    · exact ret_tok (by rw [HE.out])
    · refine SA.far6 ?_ (by omega) (by omega) _ _ _ _ _ _
      rw [HE.out]
      simpa using h9.from hA2
  have e1 : nextF l = if hd l = 34 ∨ hd l = 39 then quotF (hd l) [] l.tail
      else if hd l = 35 ∧ (cont (pk l 1) = true ∨ escs (pk l 1) (pk l 2) = true) then
        ({ kind := 28, id := idnt (pk l 1) (pk l 2) (pk l 3), text := (nameF l.tail).1 }, (nameF l.tail).2.1, (nameF l.tail).2.2)
      else if cnts (pk l 0) (pk l 1) (pk l 2) then numF l
      else if hd l = 45 ∧ pk l 1 = 45 ∧ pk l 2 = 62 then ({ kind := 4 }, l.drop 3, false)
      else if idnt (pk l 0) (pk l 1) (pk l 2) then namedF l
      else if hd l = 60 ∧ pk l 1 = 33 ∧ pk l 2 = 45 ∧ pk l 3 = 45 then ({ kind := 5 }, l.drop 4, false)
      else if hd l = 64 ∧ idnt (pk l 1) (pk l 2) (pk l 3) = true then ({ kind := 1, text := (nameF l.tail).1 }, (nameF l.tail).2.1, (nameF l.tail).2.2)
      else ({ kind := signK (hd l) }, l.tail, false) := by
    unfold nextF; rw [if_neg hn, hsp, if_neg (by decide)]
  by_cases hq : hd l = 34 ∨ hd l = 39
  · rw [if_pos hq] at e1
    have HE := Lib.hid e1
    clear e1 hne hn
    cases l with
    | nil => simp at hq
    | cons q t =>
      simp only [hd_cons, List.tail_cons] at hq HE b0 hsp
      have hq2 : (q == 34) = true ∨ ((q == 34) = false ∧ (q == 39) = true) := by
        rcases hq with rfl | rfl
        · exact .inl rfl
        · exact .inr ⟨rfl, rfl⟩
      have HQ := Lib.hid hq
      clear hq
      rcases hq2 with q1 | ⟨q1, q2⟩
      all_goals
        go_enter Tryz.func29, Tryz.ntmps29
        go_wp2_with (first | (go_at_call 35; (with_reducible refine (peek0 hA0).mono ?_); rintro e w' ⟨rfl, rfl⟩) | (go_at_call 35; (with_reducible refine (peek1 hA0).mono ?_); rintro e w' ⟨rfl, rfl⟩) | (go_at_call 35; (with_reducible refine (peek2 hA0).mono ?_); rintro e w' ⟨rfl, rfl⟩) | (go_at_call 35; (with_reducible refine (peek3 hA0).mono ?_); rintro e w' ⟨rfl, rfl⟩) | (go_at_call 37; refine (isSpace_calls _ _).mono ?_; rintro e w' ⟨rfl, rfl⟩) | (go_at_call 40; refine (Continues_calls _ _).mono ?_; rintro e w' ⟨rfl, rfl⟩) | (go_at_call 41; refine (escapes_calls _ _ _).mono ?_; rintro e w' ⟨rfl, rfl⟩) | (go_at_call 44; refine (counts_calls _ _ _ _).mono ?_; rintro e w' ⟨rfl, rfl⟩) | (go_at_call 42; refine (identifies_calls _ _ _ _).mono ?_; rintro e w' ⟨rfl, rfl⟩))
        refine (quoted_sa hA0 HQ.out).mono ?_
        rintro e w2 ⟨rfl, hA2⟩
        obtain ⟨d0, d1, d2, d3, d4, d5, f0⟩ := tok_blk hA2 hlt
        unfold tokV
        go_wp2
        refine bodyPost_ret (v := tokV (quotF q [] t).1 0 0) (by unfold tokV; simp [results, Tryz.results29, go_sem, d0, d1, d2, d3, d4, d5]) rfl ⟨?_, ?_⟩
        · exact ret_tok (by rw [HE.out])
        · refine SA.far6 ?_ (by omega) (by omega) _ _ _ _ _ _
          rw [HE.out]
          exact h9.from hA2
  rw [if_neg hq] at e1
  have b1 : (hd l == 34) = false := by simp; exact fun e => hq (.inl e)
  have b2 : (hd l == 39) = false := by simp; exact fun e => hq (.inr e)
  clear hq
  by_cases hh : hd l = 35 ∧ (cont (pk l 1) = true ∨ escs (pk l 1) (pk l 2) = true)
  · rw [if_pos hh] at e1
    have HE := Lib.hid e1
    have b3 : (hd l == 35) = true := by simp [hh.1]
    have hcs : cont (pk l 1) = true ∨ (cont (pk l 1) = false ∧ escs (pk l 1) (pk l 2) = true) := by
      cases hc : cont (pk l 1)
      · exact .inr ⟨rfl, hh.2.resolve_left (by simp [hc])⟩
      · exact .inl rfl
    clear e1 hne hn hh
    rcases hcs with hc | ⟨hc, hc2⟩
    all_goals
      go_enter Tryz.func29, Tryz.ntmps29
      go_wp2_with (first | (go_at_call 35; (with_reducible refine (peek0 hA0).mono ?_); rintro e w' ⟨rfl, rfl⟩) | (go_at_call 35; (with_reducible refine (peek1 hA0).mono ?_); rintro e w' ⟨rfl, rfl⟩) | (go_at_call 35; (with_reducible refine (peek2 hA0).mono ?_); rintro e w' ⟨rfl, rfl⟩) | (go_at_call 35; (with_reducible refine (peek3 hA0).mono ?_); rintro e w' ⟨rfl, rfl⟩) | (go_at_call 37; refine (isSpace_calls _ _).mono ?_; rintro e w' ⟨rfl, rfl⟩) | (go_at_call 40; refine (Continues_calls _ _).mono ?_; rintro e w' ⟨rfl, rfl⟩) | (go_at_call 41; refine (escapes_calls _ _ _).mono ?_; rintro e w' ⟨rfl, rfl⟩) | (go_at_call 44; refine (counts_calls _ _ _ _).mono ?_; rintro e w' ⟨rfl, rfl⟩) | (go_at_call 42; refine (identifies_calls _ _ _ _).mono ?_; rintro e w' ⟨rfl, rfl⟩))
      refine (take_sa hA0).mono ?_
      rintro e w2 ⟨rfl, hA2⟩
      have hp2 := peek2 hA2
      rw [pk_tail] at hp2
      go_wp2_with (first | (go_at_call 35; (with_reducible refine hp2.mono ?_); rintro e w' ⟨rfl, rfl⟩) | (go_at_call 42; refine (identifies_calls _ _ _ _).mono ?_; rintro e w' ⟨rfl, rfl⟩))
      refine (name_sa hA2).mono ?_
      rintro e w3 ⟨rfl, hA3⟩
      obtain ⟨d0, d1, d2, d3, d4, d5, f0⟩ := tok_blk hA3 hlt
      go_wp2
      refine bodyPost_ret (v := tokV { kind := 28, id := idnt (pk l 1) (pk l 2) (pk l 3), text := (nameF l.tail).1 } 0 0) (by unfold tokV; simp [results, Tryz.results29, go_sem, d0, d1, d2, d3, d4, d5]) rfl ⟨?_, ?_⟩
      · exact ret_tok (by rw [HE.out])
      · refine SA.far6 ?_ (by omega) (by omega) _ _ _ _ _ _
        rw [HE.out]
        exact h9.from hA3
  rw [if_neg hh] at e1
  have hb3 : (hd l == 35) = false ∨ ((hd l == 35) = true ∧ cont (pk l 1) = false ∧ escs (pk l 1) (pk l 2) = false) := by
    by_cases q : hd l = 35
    · refine .inr ⟨by simp [q], ?_, ?_⟩
      · cases hc : cont (pk l 1)
        · rfl
        · exact absurd ⟨q, .inl hc⟩ hh
      · cases hc : escs (pk l 1) (pk l 2)
        · rfl
        · exact absurd ⟨q, .inr hc⟩ hh
    · exact .inl (by simp [q])
  clear hh
  cases hcn : cnts (pk l 0) (pk l 1) (pk l 2)
  case true =>
    rw [hcn, if_pos rfl] at e1
    have HE := Lib.hid e1
    rw [pk_zero] at hcn
    clear e1 hne hn
    rcases hb3 with q1 | ⟨q1, q2, q3⟩
    all_goals
      go_enter Tryz.func29, Tryz.ntmps29
      go_wp2_with (first | (go_at_call 35; (with_reducible refine (peek0 hA0).mono ?_); rintro e w' ⟨rfl, rfl⟩) | (go_at_call 35; (with_reducible refine (peek1 hA0).mono ?_); rintro e w' ⟨rfl, rfl⟩) | (go_at_call 35; (with_reducible refine (peek2 hA0).mono ?_); rintro e w' ⟨rfl, rfl⟩) | (go_at_call 35; (with_reducible refine (peek3 hA0).mono ?_); rintro e w' ⟨rfl, rfl⟩) | (go_at_call 37; refine (isSpace_calls _ _).mono ?_; rintro e w' ⟨rfl, rfl⟩) | (go_at_call 40; refine (Continues_calls _ _).mono ?_; rintro e w' ⟨rfl, rfl⟩) | (go_at_call 41; refine (escapes_calls _ _ _).mono ?_; rintro e w' ⟨rfl, rfl⟩) | (go_at_call 44; refine (counts_calls _ _ _ _).mono ?_; rintro e w' ⟨rfl, rfl⟩) | (go_at_call 42; refine (identifies_calls _ _ _ _).mono ?_; rintro e w' ⟨rfl, rfl⟩))
      refine (numeric_sa hA0).mono ?_
      rintro e w2 ⟨rfl, hA2⟩
      obtain ⟨d0, d1, d2, d3, d4, d5, f0⟩ := tok_blk hA2 hlt
      unfold tokV
      go_wp2
      refine bodyPost_ret (v := tokV (numF l).1 0 0) (by unfold tokV; simp [results, Tryz.results29, go_sem, d0, d1, d2, d3, d4, d5]) rfl ⟨?_, ?_⟩
      · exact ret_tok (by rw [HE.out])
      · refine SA.far6 ?_ (by omega) (by omega) _ _ _ _ _ _
        rw [HE.out]
        exact h9.from hA2
  rw [hcn, if_neg (by decide)] at e1
  rw [pk_zero] at hcn
  by_cases hcd : hd l = 45 ∧ pk l 1 = 45 ∧ pk l 2 = 62
  · rw [if_pos hcd] at e1
    have HE := Lib.hid e1
    have a1 : (hd l == 45) = true := by simp [hcd.1]
    have a2 : (pk l 1 == 45) = true := by simp [hcd.2.1]
    have a3 : (pk l 2 == 62) = true := by simp [hcd.2.2]
    have hd3 := ps_drop3 h.sfx (by omega) (by omega) (by omega)
    have hle := ps_le s (l.drop 3)
    have hle2 : ps s l + 3 ≤ 1099511627776 := by have := h.size; omega
    have HD3 := Lib.hid hd3
    have c1 := hA0.sl.c1
    have f1 := blk_frozen hA0.sl 1
    have hA2 : SA w0 (w.setCell ⟨g, 1, none⟩ (.int .i64 ((ps s l : Int) + 3))) g s (l.drop 3) v o := ⟨h.sl.set1 _ (by rw [HD3.out]; simp), h.sfx.drop 3, h.kp.setCell (fun _ => rfl) _, h.size⟩
    have b3 : (hd l == 35) = false := by simp [hcd.1]
    clear e1 hne hn hcd hd3 hle hb3
    go_enter Tryz.func29, Tryz.ntmps29
    go_wp2_with (first | (go_at_call 35; (with_reducible refine (peek0 hA0).mono ?_); rintro e w' ⟨rfl, rfl⟩) | (go_at_call 35; (with_reducible refine (peek1 hA0).mono ?_); rintro e w' ⟨rfl, rfl⟩) | (go_at_call 35; (with_reducible refine (peek2 hA0).mono ?_); rintro e w' ⟨rfl, rfl⟩) | (go_at_call 35; (with_reducible refine (peek3 hA0).mono ?_); rintro e w' ⟨rfl, rfl⟩) | (go_at_call 37; refine (isSpace_calls _ _).mono ?_; rintro e w' ⟨rfl, rfl⟩) | (go_at_call 40; refine (Continues_calls _ _).mono ?_; rintro e w' ⟨rfl, rfl⟩) | (go_at_call 41; refine (escapes_calls _ _ _).mono ?_; rintro e w' ⟨rfl, rfl⟩) | (go_at_call 44; refine (counts_calls _ _ _ _).mono ?_; rintro e w' ⟨rfl, rfl⟩) | (go_at_call 42; refine (identifies_calls _ _ _ _).mono ?_; rintro e w' ⟨rfl, rfl⟩))
    refine bodyPost_ret (v := tokV { kind := 4 } 0 0) (by unfold tokV; simp [results, Tryz.results29, go_sem]) rfl ⟨?_, ?_⟩
    · exact ret_tok (by rw [HE.out])
    · rw [HE.out]
      have := hA2.alloc (.cells #[.int .i64 4, .int .i64 0, .int .i64 0, .int .i64 0, .bool false, .string ⟨#[]⟩] 42)
      simpa using this
  rw [if_neg hcd] at e1
  have hb4 : (hd l == 45) = false ∨ ((hd l == 45) = true ∧ (pk l 1 == 45) = false) ∨ ((hd l == 45) = true ∧ (pk l 1 == 45) = true ∧ (pk l 2 == 62) = false) := by
    by_cases q : hd l = 45
    · by_cases q2 : pk l 1 = 45
      · refine .inr (.inr ⟨by simp [q], by simp [q2], ?_⟩)
        simp only [beq_eq_false_iff_ne]
        exact fun q3 => hcd ⟨q, q2, q3⟩
      · exact .inr (.inl ⟨by simp [q], by simp [q2]⟩)
    · exact .inl (by simp [q])
  clear hcd
  cases hid : idnt (pk l 0) (pk l 1) (pk l 2)
  case true =>
    rw [hid, if_pos rfl] at e1
    have HE := Lib.hid e1
    rw [pk_zero] at hid
    clear e1 hne hn
    rcases hb4 with q4 | ⟨q4, q5⟩ | ⟨q4, q5, q6⟩
    · rcases hb3 with q1 | ⟨q1, q2, q3⟩
      all_goals
        go_enter Tryz.func29, Tryz.ntmps29
        go_wp2_with (first | (go_at_call 35; (with_reducible refine (peek0 hA0).mono ?_); rintro e w' ⟨rfl, rfl⟩) | (go_at_call 35; (with_reducible refine (peek1 hA0).mono ?_); rintro e w' ⟨rfl, rfl⟩) | (go_at_call 35; (with_reducible refine (peek2 hA0).mono ?_); rintro e w' ⟨rfl, rfl⟩) | (go_at_call 35; (with_reducible refine (peek3 hA0).mono ?_); rintro e w' ⟨rfl, rfl⟩) | (go_at_call 37; refine (isSpace_calls _ _).mono ?_; rintro e w' ⟨rfl, rfl⟩) | (go_at_call 40; refine (Continues_calls _ _).mono ?_; rintro e w' ⟨rfl, rfl⟩) | (go_at_call 41; refine (escapes_calls _ _ _).mono ?_; rintro e w' ⟨rfl, rfl⟩) | (go_at_call 44; refine (counts_calls _ _ _ _).mono ?_; rintro e w' ⟨rfl, rfl⟩) | (go_at_call 42; refine (identifies_calls _ _ _ _).mono ?_; rintro e w' ⟨rfl, rfl⟩))
        refine (named_sa hA0).mono ?_
        rintro e w2 ⟨rfl, hA2⟩
        obtain ⟨d0, d1, d2, d3, d4, d5, f0⟩ := tok_blk hA2 hlt
        unfold tokV
        go_wp2
        refine bodyPost_ret (v := tokV (namedF l).1 0 0) (by unfold tokV; simp [results, Tryz.results29, go_sem, d0, d1, d2, d3, d4, d5]) rfl ⟨?_, ?_⟩
        · exact ret_tok (by rw [HE.out])
        · refine SA.far6 ?_ (by omega) (by omega) _ _ _ _ _ _
          rw [HE.out]
          exact h9.from hA2
    all_goals
      have q1 : (hd l == 35) = false := by simp at q4; simp [q4]
      clear hb3
      go_enter Tryz.func29, Tryz.ntmps29
      go_wp2_with (first | (go_at_call 35; (with_reducible refine (peek0 hA0).mono ?_); rintro e w' ⟨rfl, rfl⟩) | (go_at_call 35; (with_reducible refine (peek1 hA0).mono ?_); rintro e w' ⟨rfl, rfl⟩) | (go_at_call 35; (with_reducible refine (peek2 hA0).mono ?_); rintro e w' ⟨rfl, rfl⟩) | (go_at_call 35; (with_reducible refine (peek3 hA0).mono ?_); rintro e w' ⟨rfl, rfl⟩) | (go_at_call 37; refine (isSpace_calls _ _).mono ?_; rintro e w' ⟨rfl, rfl⟩) | (go_at_call 40; refine (Continues_calls _ _).mono ?_; rintro e w' ⟨rfl, rfl⟩) | (go_at_call 41; refine (escapes_calls _ _ _).mono ?_; rintro e w' ⟨rfl, rfl⟩) | (go_at_call 44; refine (counts_calls _ _ _ _).mono ?_; rintro e w' ⟨rfl, rfl⟩) | (go_at_call 42; refine (identifies_calls _ _ _ _).mono ?_; rintro e w' ⟨rfl, rfl⟩))
      refine (named_sa hA0).mono ?_
      rintro e w2 ⟨rfl, hA2⟩
      obtain ⟨d0, d1, d2, d3, d4, d5, f0⟩ := tok_blk hA2 hlt
      unfold tokV
      go_wp2
      refine bodyPost_ret (v := tokV (namedF l).1 0 0) (by unfold tokV; simp [results, Tryz.results29, go_sem, d0, d1, d2, d3, d4, d5]) rfl ⟨?_, ?_⟩
      · exact ret_tok (by rw [HE.out])
      · refine SA.far6 ?_ (by omega) (by omega) _ _ _ _ _ _
        rw [HE.out]
        exact h9.from hA2
  rw [hid, if_neg (by decide)] at e1
  rw [pk_zero] at hid
  by_cases hco : hd l = 60 ∧ pk l 1 = 33 ∧ pk l 2 = 45 ∧ pk l 3 = 45
  · rw [if_pos hco] at e1
    have HE := Lib.hid e1
    have a0 : (hd l == 45) = false := by simp [hco.1]
    have a1 : (hd l == 60) = true := by simp [hco.1]
    have a2 : (pk l 1 == 33) = true := by simp [hco.2.1]
    have a3 : (pk l 2 == 45) = true := by simp [hco.2.2.1]
    have a4 : (pk l 3 == 45) = true := by simp [hco.2.2.2]
    have hd3 := ps_drop4 h.sfx (by omega) (by omega) (by omega) (by omega)
    have hle := ps_le s (l.drop 4)
    have hle2 : ps s l + 4 ≤ 1099511627776 := by have := h.size; omega
    have HD3 := Lib.hid hd3
    have c1 := hA0.sl.c1
    have f1 := blk_frozen hA0.sl 1
    have hA2 : SA w0 (w.setCell ⟨g, 1, none⟩ (.int .i64 ((ps s l : Int) + 4))) g s (l.drop 4) v o := ⟨h.sl.set1 _ (by rw [HD3.out]; simp), h.sfx.drop 4, h.kp.setCell (fun _ => rfl) _, h.size⟩
    have b3 : (hd l == 35) = false := by simp [hco.1]
    clear e1 hne hn hco hd3 hle hb3 hb4
    go_enter Tryz.func29, Tryz.ntmps29
    go_wp2_with (first | (go_at_call 35; (with_reducible refine (peek0 hA0).mono ?_); rintro e w' ⟨rfl, rfl⟩) | (go_at_call 35; (with_reducible refine (peek1 hA0).mono ?_); rintro e w' ⟨rfl, rfl⟩) | (go_at_call 35; (with_reducible refine (peek2 hA0).mono ?_); rintro e w' ⟨rfl, rfl⟩) | (go_at_call 35; (with_reducible refine (peek3 hA0).mono ?_); rintro e w' ⟨rfl, rfl⟩) | (go_at_call 37; refine (isSpace_calls _ _).mono ?_; rintro e w' ⟨rfl, rfl⟩) | (go_at_call 40; refine (Continues_calls _ _).mono ?_; rintro e w' ⟨rfl, rfl⟩) | (go_at_call 41; refine (escapes_calls _ _ _).mono ?_; rintro e w' ⟨rfl, rfl⟩) | (go_at_call 44; refine (counts_calls _ _ _ _).mono ?_; rintro e w' ⟨rfl, rfl⟩) | (go_at_call 42; refine (identifies_calls _ _ _ _).mono ?_; rintro e w' ⟨rfl, rfl⟩))
    refine bodyPost_ret (v := tokV { kind := 5 } 0 0) (by unfold tokV; simp [results, Tryz.results29, go_sem]) rfl ⟨?_, ?_⟩
    · exact ret_tok (by rw [HE.out])
    · rw [HE.out]
      have := hA2.alloc (.cells #[.int .i64 5, .int .i64 0, .int .i64 0, .int .i64 0, .bool false, .string ⟨#[]⟩] 42)
      simpa using this
  rw [if_neg hco] at e1
  by_cases hat : hd l = 64 ∧ idnt (pk l 1) (pk l 2) (pk l 3) = true
  · rw [if_pos hat] at e1
    have HE := Lib.hid e1
    have a0 : (hd l == 45) = false := by simp [hat.1]
    have a1 : (hd l == 60) = false := by simp [hat.1]
    have a2 : (hd l == 64) = true := by simp [hat.1]
    have b3 : (hd l == 35) = false := by simp [hat.1]
    have a3 := hat.2
    clear e1 hne hn hco hat hb3 hb4
    go_enter Tryz.func29, Tryz.ntmps29
    go_wp2_with (first | (go_at_call 35; (with_reducible refine (peek0 hA0).mono ?_); rintro e w' ⟨rfl, rfl⟩) | (go_at_call 35; (with_reducible refine (peek1 hA0).mono ?_); rintro e w' ⟨rfl, rfl⟩) | (go_at_call 35; (with_reducible refine (peek2 hA0).mono ?_); rintro e w' ⟨rfl, rfl⟩) | (go_at_call 35; (with_reducible refine (peek3 hA0).mono ?_); rintro e w' ⟨rfl, rfl⟩) | (go_at_call 37; refine (isSpace_calls _ _).mono ?_; rintro e w' ⟨rfl, rfl⟩) | (go_at_call 40; refine (Continues_calls _ _).mono ?_; rintro e w' ⟨rfl, rfl⟩) | (go_at_call 41; refine (escapes_calls _ _ _).mono ?_; rintro e w' ⟨rfl, rfl⟩) | (go_at_call 44; refine (counts_calls _ _ _ _).mono ?_; rintro e w' ⟨rfl, rfl⟩) | (go_at_call 42; refine (identifies_calls _ _ _ _).mono ?_; rintro e w' ⟨rfl, rfl⟩))
    refine (take_sa hA0).mono ?_
    rintro e w2 ⟨rfl, hA2⟩
    go_wp2_with fail
    refine (name_sa hA2).mono ?_
    rintro e w3 ⟨rfl, hA3⟩
    obtain ⟨d0, d1, d2, d3, d4, d5, f0⟩ := tok_blk hA3 hlt
    go_wp2
    refine bodyPost_ret (v := tokV { kind := 1, text := (nameF l.tail).1 } 0 0) (by unfold tokV; simp [results, Tryz.results29, go_sem, d0, d1, d2, d3, d4, d5]) rfl ⟨?_, ?_⟩
    · exact ret_tok (by rw [HE.out])
    · refine SA.far6 ?_ (by omega) (by omega) _ _ _ _ _ _
      rw [HE.out]
      exact h9.from hA3
  rw [if_neg hat] at e1
  have HE := Lib.hid e1
  have hb5 : ((hd l == 35) = true ∧ cont (pk l 1) = false ∧ escs (pk l 1) (pk l 2) = false ∧ (hd l == 45) = false ∧ (hd l == 60) = false ∧ (hd l == 64) = false)
      ∨ ((hd l == 45) = true ∧ (pk l 1 == 45) = false ∧ (hd l == 35) = false ∧ (hd l == 60) = false ∧ (hd l == 64) = false)
      ∨ ((hd l == 45) = true ∧ (pk l 1 == 45) = true ∧ (pk l 2 == 62) = false ∧ (hd l == 35) = false ∧ (hd l == 60) = false ∧ (hd l == 64) = false)
      ∨ ((hd l == 60) = true ∧ (pk l 1 == 33) = false ∧ (hd l == 35) = false ∧ (hd l == 45) = false ∧ (hd l == 64) = false)
      ∨ ((hd l == 60) = true ∧ (pk l 1 == 33) = true ∧ (pk l 2 == 45) = false ∧ (hd l == 35) = false ∧ (hd l == 45) = false ∧ (hd l == 64) = false)
      ∨ ((hd l == 60) = true ∧ (pk l 1 == 33) = true ∧ (pk l 2 == 45) = true ∧ (pk l 3 == 45) = false ∧ (hd l == 35) = false ∧ (hd l == 45) = false ∧ (hd l == 64) = false)
      ∨ ((hd l == 64) = true ∧ idnt (pk l 1) (pk l 2) (pk l 3) = false ∧ (hd l == 35) = false ∧ (hd l == 45) = false ∧ (hd l == 60) = false)
      ∨ ((hd l == 35) = false ∧ (hd l == 45) = false ∧ (hd l == 60) = false ∧ (hd l == 64) = false) := by
    by_cases p1 : hd l = 35
    · rcases hb3 with q | ⟨q, q2, q3⟩
      · simp [p1] at q
      · exact .inl ⟨q, q2, q3, by simp [p1], by simp [p1], by simp [p1]⟩
    · by_cases p2 : hd l = 45
      · rcases hb4 with q | ⟨q, q2⟩ | ⟨q, q2, q3⟩
        · simp [p2] at q
        · exact .inr (.inl ⟨q, q2, by simp [p2], by simp [p2], by simp [p2]⟩)
        · exact .inr (.inr (.inl ⟨q, q2, q3, by simp [p2], by simp [p2], by simp [p2]⟩))
      · by_cases p3 : hd l = 60
        · by_cases p4 : pk l 1 = 33
          · by_cases p5 : pk l 2 = 45
            · have p6 : pk l 3 ≠ 45 := fun p6 => hco ⟨p3, p4, p5, p6⟩
              exact .inr (.inr (.inr (.inr (.inr (.inl ⟨by simp [p3], by simp [p4], by simp [p5], by simp [p6], by simp [p3], by simp [p3], by simp [p3]⟩)))))
            · exact .inr (.inr (.inr (.inr (.inl ⟨by simp [p3], by simp [p4], by simp [p5], by simp [p3], by simp [p3], by simp [p3]⟩))))
          · exact .inr (.inr (.inr (.inl ⟨by simp [p3], by simp [p4], by simp [p3], by simp [p3], by simp [p3]⟩)))
        · by_cases p4 : hd l = 64
          · have p5 : idnt (pk l 1) (pk l 2) (pk l 3) = false := by
              cases q : idnt (pk l 1) (pk l 2) (pk l 3)
              · rfl
              · exact absurd ⟨p4, q⟩ hat
            exact .inr (.inr (.inr (.inr (.inr (.inr (.inl ⟨by simp [p4], p5, by simp [p4], by simp [p4], by simp [p4]⟩))))))
          · exact .inr (.inr (.inr (.inr (.inr (.inr (.inr ⟨by simp [p1], by simp [p2], by simp [p3], by simp [p4]⟩))))))
  clear e1 hne hn hco hat hb3 hb4
  rcases hb5 with ⟨p1, p2, p3, p4, p5, p6⟩ | ⟨p1, p2, p3, p4, p5⟩ | ⟨p1, p2, p3, p4, p5, p6⟩ | ⟨p1, p2, p3, p4, p5⟩ | ⟨p1, p2, p3, p4, p5, p6⟩ | ⟨p1, p2, p3, p4, p5, p6, p7⟩ | ⟨p1, p2, p3, p4, p5⟩ | ⟨p1, p2, p3, p4⟩
  all_goals
    go_enter Tryz.func29, Tryz.ntmps29
    go_wp2_with (first | (go_at_call 35; (with_reducible refine (peek0 hA0).mono ?_); rintro e w' ⟨rfl, rfl⟩) | (go_at_call 35; (with_reducible refine (peek1 hA0).mono ?_); rintro e w' ⟨rfl, rfl⟩) | (go_at_call 35; (with_reducible refine (peek2 hA0).mono ?_); rintro e w' ⟨rfl, rfl⟩) | (go_at_call 35; (with_reducible refine (peek3 hA0).mono ?_); rintro e w' ⟨rfl, rfl⟩) | (go_at_call 37; refine (isSpace_calls _ _).mono ?_; rintro e w' ⟨rfl, rfl⟩) | (go_at_call 40; refine (Continues_calls _ _).mono ?_; rintro e w' ⟨rfl, rfl⟩) | (go_at_call 41; refine (escapes_calls _ _ _).mono ?_; rintro e w' ⟨rfl, rfl⟩) | (go_at_call 44; refine (counts_calls _ _ _ _).mono ?_; rintro e w' ⟨rfl, rfl⟩) | (go_at_call 42; refine (identifies_calls _ _ _ _).mono ?_; rintro e w' ⟨rfl, rfl⟩))
    refine (sign_sa2 hA0 HN.out).mono ?_
    rintro e w2 ⟨rfl, hA2⟩
    obtain ⟨d0, d1, d2, d3, d4, d5, f0⟩ := tok_blk hA2 hlt
    unfold tokV
    go_wp2
    refine bodyPost_ret (v := tokV { kind := signK (hd l) } 0 0) (by unfold tokV; simp [results, Tryz.results29, go_sem, d0, d1, d2, d3, d4, d5]) rfl ⟨?_, ?_⟩
    · exact ret_tok (by rw [HE.out])
    · refine SA.far6 ?_ (by omega) (by omega) _ _ _ _ _ _
      rw [HE.out]
      simpa using h9.from hA2
end Go.Proofs.YtedckphklebndaaGreatDoor
/- The reference's comment, walked. Conditions: those of the lexer in memory (SC). -/
namespace Go.Proofs.YtedckphklebndaaGreatDoor
open Go Go.RowKit
theorem info95 : (Tryz.prog.info? 95).map (fun i => (i.zero, i.size, i.bytes)) = some (some (.agg #[.int .i64 0, .int .i64 0]), 2, 16) := by kernel_rfl
theorem own_ne {w : World} {base : Nat} {e t : TypeId} {size n : Nat} {v : Value} {xs : List Value} {g : Nat} {cs : Array Value} {fr : Nat × Nat} (ho : w.ownsRow base e size v n xs) (hb : w.heap[g]? = some (.cells cs t fr)) (ht : e ≠ t) : v.ownBlock ≠ some g := by
  intro hk
  rcases ho.2 with ⟨rfl, _⟩ | ⟨k, cap, cur, rfl, _, hc, _⟩
  · cases hk
  · simp only [Value.ownBlock, Option.some.injEq] at hk
    subst hk
    rw [hc] at hb
    injection hb with hb
    injection hb with _ hb
    exact ht hb
/-- The reference's lexer in memory with the row of its comments. -/
def SC (w0 w : World) (g : Nat) (s : ByteArray) (l : List Int) (o : Bool) (v0 : Value) (base : Nat) : Prop :=
  ∃ v n xs, SL w g s l v o ∧ Sfx s l ∧ s.size ≤ 1099511627776 ∧ w.ownsRow base 95 2 v n xs ∧ n ≤ ps s l ∧ (∀ k, v.ownBlock = some k → k < w0.heap.size → v0.ownBlock = some k) ∧ Keep (fun k => k = g ∨ v0.ownBlock = some k) w0 w
/-- One comment more: what the append and the store leave. -/
theorem SC.more {w0 w w1 : World} {g : Nat} {s : ByteArray} {l : List Int} {o : Bool} {v0 v : Value} {base n cap gg : Nat} {xs news : List Value} (hL : SL w g s l v o) (hS : Sfx s l) (hs : s.size ≤ 1099511627776) 
    (ho1 : w1.ownsRow base 95 2 (.slice (some ⟨gg, 0, none⟩) (n + 1) cap) (n + 1) (xs ++ news)) (hg : w.grownBy w1 v.ownBlock) (hgl : w0.heap.size ≤ w.heap.size) (hat : v.ownBlock = some gg ∨ w.heap.size ≤ gg) (hne : v.ownBlock ≠ some g) (hn : n + 1 ≤ ps s l)
    (hv : ∀ k, v.ownBlock = some k → k < w0.heap.size → v0.ownBlock = some k) (hK : Keep (fun k => k = g ∨ v0.ownBlock = some k) w0 w) :
    SC w0 (w1.setCell ⟨g, 2, none⟩ (.slice (some ⟨gg, 0, none⟩) (n + 1) cap)) g s l o v0 base := by
  have hgb : w1.heap[g]? = w.heap[g]? := hg.block g (lt_of_blk hL) (fun e => hne e.symm)
  have hL1 : w1.heap[g]? = some (.cells #[.string s, .int .i64 (ps s l), v, .bool o] 67 (0, 0)) := hgb.trans hL
  have hgg : gg ≠ g := fun e => own_ne ho1 hL1 (by decide) (by rw [e]; rfl)
  refine ⟨_, n + 1, xs ++ news, (blk_set hL1 2 _).trans rfl, hS, hs, ?_, hn, ?_, ?_⟩
  · refine ⟨ho1.1, ?_⟩
    rcases ho1.2 with ⟨h1, h2⟩ | ⟨k, cp, cur, h1, h2, h3, h4⟩
    · exact absurd h2 (by omega)
    · refine .inr ⟨k, cp, cur, h1, h2, ?_, h4⟩
      injection h1 with h1
      injection h1 with h1
      injection h1 with h1
      rw [Below.heap_setCell w1 _ _ k (by simp only; omega)]
      exact h3
  · intro k hk hlt
    simp only [Value.ownBlock, Option.some.injEq] at hk
    subst hk
    rcases hat with h | h
    · exact hv _ h hlt
    · omega
  · refine (hK.trans' (Keep.of_grown hg (fun k => v.ownBlock = some k) (fun k e => e)) ?_).setCell (fun _ => .inl rfl) _
    intro k hk e
    exact .inr (hv k e hk)
theorem cmts_some {l r : List Int} (h1 : hd l = 47) (h2 : pk l 1 = 42) (h3 : closeF (l.drop 2) = some r) : cmtsF l = cmtsF r := by
  rw [cmtsF, if_pos ⟨h1, h2⟩]
  split
  · rename_i r' h'
    rw [h3] at h'
    injection h' with h'
    rw [h']
  · rename_i h'
    rw [h3] at h'
    cases h'
theorem cmts_none {l : List Int} (h1 : hd l = 47) (h2 : pk l 1 = 42) (h3 : closeF (l.drop 2) = none) : cmtsF l = ([], true) := by
  rw [cmtsF, if_pos ⟨h1, h2⟩]
  split
  · rename_i r' h'
    rw [h3] at h'
    cases h'
  · rfl
theorem cmts_stop {l : List Int} (h : ¬ (hd l = 47 ∧ pk l 1 = 42)) : cmtsF l = (l, false) := by rw [cmtsF, if_neg h]
theorem closeF_hit {l : List Int} (h1 : hd l = 42) (h2 : pk l 1 = 47) : closeF l = some (l.drop 2) := by
  cases l with
  | nil => simp at h1
  | cons c t => simp only [hd_cons, pk_cons, pk_zero] at h1 h2; rw [closeF, if_pos ⟨h1, h2⟩]; cases t <;> rfl
theorem closeF_go {l : List Int} (h : ¬ (hd l = 42 ∧ pk l 1 = 47)) : closeF l = closeF l.tail := by
  cases l with
  | nil => rfl
  | cons c t => simp only [hd_cons, pk_cons, pk_zero] at h; rw [closeF, if_neg h]; rfl
/-- comment's inner loop. -/
def CLo (w0 : World) (g : Nat) (s : ByteArray) (l : List Int) (v : Value) (o : Bool) (k : Nat) (w : World) : Prop :=
  ∃ l', l'.length = k ∧ (∃ q, l' = l.drop q) ∧ closeF l' = closeF l ∧ SA w0 w g s l' v o
theorem ps_ascii2 {s : ByteArray} {l : List Int} (h : Sfx s l) (h0 : 0 ≤ hd l ∧ hd l < 128) (h1 : 0 ≤ pk l 1 ∧ pk l 1 < 128) : ps s (l.drop 2) = ps s l + 2 := by
  rw [pk_one] at h1
  rw [drop2, ps_ascii h.tl h1.1 h1.2, ps_ascii h h0.1 h0.2]
theorem ps_mono {s : ByteArray} {l l' : List Int} (h : Sfx s l) {k : Nat} (e : l' = l.drop k) : ps s l ≤ ps s l' := by
  subst e
  have h2 := h.fits
  have : (encs (l.drop k)).length ≤ (encs l).length := by
    have e : encs l = encs (l.take k) ++ encs (l.drop k) := by rw [← encs_append, List.take_append_drop]
    rw [e, List.length_append]; omega
  unfold ps; omega
def CMo (w0 : World) (g : Nat) (s : ByteArray) (l : List Int) (o : Bool) (v0 : Value) (base k : Nat) (w : World) : Prop :=
  ∃ l' o', l'.length = k ∧ (cmtsF l').1 = (cmtsF l).1 ∧ (o' || (cmtsF l').2) = (o || (cmtsF l).2) ∧ SC w0 w g s l' o' v0 base
set_option maxRecDepth 100000 in
set_option maxHeartbeats 4000000 in
theorem comment_sc {w0 w : World} {g : Nat} {s : ByteArray} {l : List Int} {o : Bool} {v0 : Value} {base : Nat} (h : SC w0 w g s l o v0 base) (hb : base ≤ w0.heap.size) :
    Calls Tryz.prog 28 #[.pointer (some ⟨g, 0, none⟩)] w fun e w' => e = .returned (.tuple #[]) ∧ SC w0 w' g s (cmtsF l).1 (o || (cmtsF l).2) v0 base := by
  obtain ⟨i0, hi0, hz0, hz1, hz2⟩ := info_parts info95
  go_enter Tryz.func28, Tryz.ntmps28
  go_wp2_with fail
  go_loopg [] l.length (fun k wr => CMo w0 g s l o v0 base k wr)
  case atStart => exact ⟨l, o, rfl, rfl, rfl, h⟩
  case round =>
    obtain ⟨l', o', hk, he1, he2, v, n, xs, hL, hS, hs, ho, hn, hv, hK⟩ := hrel
    have HKK := Lib.hid hk
    have HE1 := Lib.hid he1
    have HE2 := Lib.hid he2
    have HV := Lib.hid hv
    clear hk he1 he2 hv h
    obtain ⟨wo, rfl⟩ : ∃ wo : World, wo = wr := ⟨_, rfl⟩
    have hA : SA wo wo g s l' v o' := ⟨hL, hS, Keep.refl _ _, hs⟩
    by_cases h1 : hd l' = 47 ∧ pk l' 1 = 42
    · have b1 : (hd l' == 47) = true := by simp [h1.1]
      have b2 : (pk l' 1 == 42) = true := by simp [h1.2]
      have c1 := hL.c1
      have f1 := blk_frozen hL 1
      have hps := ps_ascii2 hS (by omega) (by omega)
      have hps2 := ps_le s (l'.drop 2)
      have hps3 : ps s l' + 2 ≤ 1099511627776 := by omega
      have HP := Lib.hid hps
      have H1 := Lib.hid h1
      have hA1 : SA (wo.setCell ⟨g, 1, none⟩ (.int .i64 ((ps s l' : Int) + 2))) (wo.setCell ⟨g, 1, none⟩ (.int .i64 ((ps s l' : Int) + 2))) g s (l'.drop 2) v o' := ⟨hL.set1 _ (by rw [HP.out]; simp), hS.drop 2, Keep.refl _ _, hs⟩
      have hKa : KeepB g wo (wo.setCell ⟨g, 1, none⟩ (.int .i64 ((ps s l' : Int) + 2))) := (Keep.refl (fun k => k = g) wo).setCell (p := ⟨g, 1, none⟩) (fun _ => rfl) _
      have AG : Hid (v.ownBlock ≠ some g) := Lib.hid (own_ne ho hL (by decide))
      clear h1 hps hps2
      go_wp2_with (first | (go_at_call 35; (with_reducible refine (peek0 hA).mono ?_); rintro e w' ⟨rfl, rfl⟩) | (go_at_call 35; (with_reducible refine (peek1 hA).mono ?_); rintro e w' ⟨rfl, rfl⟩))
      generalize hW : wo.setCell ⟨g, 1, none⟩ (.int .i64 ((ps s l' : Int) + 2)) = W at hA1 hKa ⊢
      clear hW
      go_loopg [] (l'.drop 2).length (fun k w2 => CLo W g s (l'.drop 2) v o' k w2)
      case atStart => exact ⟨l'.drop 2, rfl, ⟨0, rfl⟩, rfl, hA1⟩
      case round =>
        obtain ⟨l2, hk2, hk3, hc2, hA2⟩ := hrel
        have HK2 := Lib.hid hk2
        have HK3 := Lib.hid hk3
        have HC2 := Lib.hid hc2
        clear hk2 hk3 hc2
        by_cases h2 : hd l2 = 42 ∧ pk l2 1 = 47
        · have d1 : (hd l2 == 42) = true := by simp [h2.1]
          have d2 : (pk l2 1 == 47) = true := by simp [h2.2]
          have hps := ps_ascii2 hA2.sfx (by omega) (by omega)
          have hps2 := ps_le s (l2.drop 2)
          have hps4 : ps s l2 + 2 ≤ 1099511627776 := by omega
          have HP2 := Lib.hid hps
          have H2 := Lib.hid h2
          have c1' := hA2.sl.c1
          have f1' := blk_frozen hA2.sl 1
          have hA3 : SA W (wr.setCell ⟨g, 1, none⟩ (.int .i64 ((ps s l2 : Int) + 2))) g s (l2.drop 2) v o' := ⟨hA2.sl.set1 _ (by rw [HP2.out]; simp), hA2.sfx.drop 2, hA2.kp.setCell (fun _ => rfl) _, hs⟩
          clear h2 hps hps2
          go_wp2_with (first | (go_at_call 35; (with_reducible refine (peek0 hA2).mono ?_); rintro e w' ⟨rfl, rfl⟩) | (go_at_call 35; (with_reducible refine (peek1 hA2).mono ?_); rintro e w' ⟨rfl, rfl⟩))
          generalize hW3 : wr.setCell ⟨g, 1, none⟩ (.int .i64 ((ps s l2 : Int) + 2)) = W3 at hA3 ⊢
          clear hW3
          have e1 := hA3.sl.c1
          obtain ⟨P, hP⟩ : ∃ P : Int, ((ps s (l2.drop 2) : Nat) : Int) = P := ⟨_, rfl⟩
          rw [hP] at e1
          clear hP
          have e2 := hA3.sl.c2
          have e3 := blk_frozen hA3.sl 2
          have hown : W3.ownsRow base 95 2 v n xs := hA3.kp.own (hKa.own ho (fun k e1 e2 => AG.out (by rw [e1, e2]))) (fun k e1 e2 => AG.out (by rw [e1, e2]))
          have ag := AG.out
          have lg := hA3.lt
          have hbs : base ≤ W3.heap.size := by have := hK.size; have := hKa.size; have := hA3.kp.size; omega
          have hnn : n ≤ 1099511627776 := by have := ps_le s l'; omega
          go_region_law (first
            | (refine step_append_lies _ (by rfl) _ _ _ (by rfl) base 95 i0 _ 2 16 Tryz.underlying39 hi0 hz0 hz1 hz2 rfl (by omega) v n xs (by rfl) ((hown.alloc _).drew)
                ⟨W3.heap.size, 0, none⟩ 1 1 [.int .i64 (ps s l'), .int .i64 P] (by rfl) (by rfl) (World.news_of_block (cs := #[.int .i64 (ps s l'), .int .i64 P]) (t := 95) (fr := (0, 0)) (heap_alloc_new W3 _)) (by simp [Value.oneCell'])
                (by omega) (by unfold maxLen; omega) (by omega) (by simp; omega) (W3.heap.size + 1) (by simp) ?_; intro gg cap w1 hown1 hgrow hat hlt; have q1 : w1.cell? ⟨g, 2, none⟩ = some v := (hgrow.cell_far ⟨g, 2, none⟩ (by simp; omega) (Ne.symm ag)).trans ((World.cell?_alloc_past _ _ _ lg).trans e2); have q2 : w1.frozen? ⟨g, 2, none⟩ = false := (hgrow.frozen_far ⟨g, 2, none⟩ (by simp; omega) (Ne.symm ag)).trans ((World.frozen?_alloc_past _ _ _ lg).trans e3)))
          all_goals
            go_wp2_with fail
            go_roundg (l2.drop 2).length
            case measure =>
              obtain ⟨q, hq⟩ := HK3.out
              have := HKK.out
              have h47 := H1.out.1
              rw [hq]
              cases l' with
              | nil => simp at h47
              | cons c t => simp only [List.length_drop, List.length_cons] at *; omega
            case rel =>
              refine ⟨l2.drop 2, o', rfl, ?_, ?_, ?_⟩
              · rw [← HE1.out, cmts_some H1.out.1 H1.out.2 (by rw [← HC2.out]; exact closeF_hit H2.out.1 H2.out.2)]
              · rw [← HE2.out, cmts_some H1.out.1 H1.out.2 (by rw [← HC2.out]; exact closeF_hit H2.out.1 H2.out.2)]
              · have hnn1 : n + 1 ≤ ps s (l2.drop 2) := by
                  obtain ⟨q, hq⟩ := HK3.out
                  have := ps_mono (hS.drop 2) hq
                  have := HP.out
                  have := HP2.out
                  omega
                exact SC.more (w := (W3.alloc (.cells #[.int .i64 (ps s l'), .int .i64 P] 95)).drew) (hA3.alloc (.cells #[.int .i64 (ps s l'), .int .i64 P] 95)).sl hA3.sfx hs hown1 hgrow
                  (by have := hK.size; have := hKa.size; have := hA3.kp.size; show w0.heap.size ≤ (W3.alloc _).heap.size; simp; omega)
                  (by rcases hat with h | h
                      · exact .inl h
                      · exact .inr (by show (W3.alloc _).heap.size ≤ gg; simp; omega)) ag hnn1 HV.out
                  (((hK.trans (hKa.mono (fun k _ e => .inl e))).trans (hA3.kp.mono (fun k _ e => .inl e))).alloc _).drew
        · have HZ := Lib.hid (closeF_go h2)
          have hd12 : (hd l2 == 42) = false ∨ ((hd l2 == 42) = true ∧ (pk l2 1 == 47) = false) := by
            by_cases q : hd l2 = 42
            · refine .inr ⟨by simp [q], ?_⟩
              simp only [beq_eq_false_iff_ne]
              exact fun q2 => h2 ⟨q, q2⟩
            · exact .inl (by simp [q])
          clear h2
          by_cases hn2 : l2 = []
          · subst hn2
            have HF : Hid (closeF (l'.drop 2) = none) := Lib.hid (by rw [← HC2.out]; rfl)
            clear hd12
            go_wp2_with (first | (go_at_call 35; (with_reducible refine (peek0 hA2).mono ?_); rintro e w' ⟨rfl, rfl⟩) | (go_at_call 35; (with_reducible refine (peek1 hA2).mono ?_); rintro e w' ⟨rfl, rfl⟩))
            refine (take_sa hA2).mono ?_
            rintro e w4 ⟨rfl, hA4⟩
            have c3 := hA4.sl.c3
            have f3 := blk_frozen hA4.sl 3
            have hA3 : SA W (w4.setCell ⟨g, 3, none⟩ (.bool true)) g s [] v true := ⟨hA4.sl.set3 true, hA4.sfx, hA4.kp.setCell (fun _ => rfl) _, hs⟩
            go_wp2_with fail
            generalize hW3 : w4.setCell ⟨g, 3, none⟩ (.bool true) = W3 at hA3 ⊢
            clear hW3 hA4 c3 f3
            have e1 := hA3.sl.c1
            obtain ⟨P, hP⟩ : ∃ P : Int, ((ps s ([] : List Int) : Nat) : Int) = P := ⟨_, rfl⟩
            rw [hP] at e1
            clear hP
            have e2 := hA3.sl.c2
            have e3 := blk_frozen hA3.sl 2
            have hown : W3.ownsRow base 95 2 v n xs := hA3.kp.own (hKa.own ho (fun k e1 e2 => AG.out (by rw [e1, e2]))) (fun k e1 e2 => AG.out (by rw [e1, e2]))
            have ag := AG.out
            have lg := hA3.lt
            have hbs : base ≤ W3.heap.size := by have := hK.size; have := hKa.size; have := hA3.kp.size; omega
            have hnn : n ≤ 1099511627776 := by have := ps_le s l'; omega
            go_region_law (first
              | (refine step_append_lies _ (by rfl) _ _ _ (by rfl) base 95 i0 _ 2 16 Tryz.underlying39 hi0 hz0 hz1 hz2 rfl (by omega) v n xs (by rfl) ((hown.alloc _).drew)
                  ⟨W3.heap.size, 0, none⟩ 1 1 [.int .i64 (ps s l'), .int .i64 P] (by rfl) (by rfl) (World.news_of_block (cs := #[.int .i64 (ps s l'), .int .i64 P]) (t := 95) (fr := (0, 0)) (heap_alloc_new W3 _)) (by simp [Value.oneCell'])
                  (by omega) (by unfold maxLen; omega) (by omega) (by simp; omega) (W3.heap.size + 1) (by simp) ?_; intro gg cap w1 hown1 hgrow hat hlt; have q1 : w1.cell? ⟨g, 2, none⟩ = some v := (hgrow.cell_far ⟨g, 2, none⟩ (by simp; omega) (Ne.symm ag)).trans ((World.cell?_alloc_past _ _ _ lg).trans e2); have q2 : w1.frozen? ⟨g, 2, none⟩ = false := (hgrow.frozen_far ⟨g, 2, none⟩ (by simp; omega) (Ne.symm ag)).trans ((World.frozen?_alloc_past _ _ _ lg).trans e3)))
            all_goals
              go_wp2_with fail
              refine bodyPost_ret (v := .tuple #[]) (by simp [results, Tryz.results28, go_sem]) rfl ⟨rfl, ?_⟩
              have hcn := cmts_none H1.out.1 H1.out.2 HF.out
              have z1 := HE1.out
              have z2 := HE2.out
              rw [hcn] at z1 z2
              rw [← z1, ← z2, Bool.or_true]
              have hnn1 : n + 1 ≤ ps s ([] : List Int) := by
                have := HP.out
                have := ps_le s (l'.drop 2)
                rw [ps_nil]
                omega
              exact SC.more (w := (W3.alloc (.cells #[.int .i64 (ps s l'), .int .i64 P] 95)).drew) (hA3.alloc (.cells #[.int .i64 (ps s l'), .int .i64 P] 95)).sl hA3.sfx hs hown1 hgrow
                (by have := hK.size; have := hKa.size; have := hA3.kp.size; show w0.heap.size ≤ (W3.alloc _).heap.size; simp; omega)
                (by rcases hat with h | h
                    · exact .inl h
                    · exact .inr (by show (W3.alloc _).heap.size ≤ gg; simp; omega)) ag hnn1 HV.out
                (((hK.trans (hKa.mono (fun k _ e => .inl e))).trans (hA3.kp.mono (fun k _ e => .inl e))).alloc _).drew
          · have hne := hd_ne hA2.sfx.all hn2
            have d3 : (hd l2 == -1) = false := by simp [hne]
            have HL := Lib.hid (tail_lt hne)
            clear hn2 hne
            rcases hd12 with d1 | ⟨d1, d2⟩
            all_goals
              go_wp2_with (first | (go_at_call 35; (with_reducible refine (peek0 hA2).mono ?_); rintro e w' ⟨rfl, rfl⟩) | (go_at_call 35; (with_reducible refine (peek1 hA2).mono ?_); rintro e w' ⟨rfl, rfl⟩))
              refine (take_sa hA2).mono ?_
              rintro e w4 ⟨rfl, hA4⟩
              go_wp2_with fail
              go_roundg l2.tail.length
              case measure => rw [← HK2.out]; exact HL.out
              case rel =>
                refine ⟨l2.tail, rfl, ?_, ?_, hA4⟩
                · obtain ⟨q, hq⟩ := HK3.out
                  exact ⟨q + 1, by rw [hq, List.tail_drop]⟩
                · rw [← HZ.out]; exact HC2.out
    · have HE := Lib.hid (cmts_stop h1)
      have hb12 : (hd l' == 47) = false ∨ ((hd l' == 47) = true ∧ (pk l' 1 == 42) = false) := by
        by_cases q : hd l' = 47
        · refine .inr ⟨by simp [q], ?_⟩
          simp only [beq_eq_false_iff_ne]
          exact fun q2 => h1 ⟨q, q2⟩
        · exact .inl (by simp [q])
      have hSC : SC w0 wo g s l' o' v0 base := ⟨v, n, xs, hL, hS, hs, ho, hn, HV.out, hK⟩
      clear h1
      rcases hb12 with b1 | ⟨b1, b2⟩
      all_goals
        go_wp2_with (first | (go_at_call 35; (with_reducible refine (peek0 hA).mono ?_); rintro e w' ⟨rfl, rfl⟩) | (go_at_call 35; (with_reducible refine (peek1 hA).mono ?_); rintro e w' ⟨rfl, rfl⟩))
        go_end0
        refine ⟨rfl, ?_⟩
        rw [← HE1.out, ← HE2.out, HE.out]
        simpa using hSC
end Go.Proofs.YtedckphklebndaaGreatDoor
/- The reference's lexer over lists of code points: each step takes something; the tokens of a text. No condition; no program in sight. -/
namespace Go.Proofs.YtedckphklebndaaGreatDoor
open Go

theorem nameF_le (l : List Int) : (nameF l).2.1.length ≤ l.length := by
  induction hn : l.length using Nat.strongRecOn generalizing l with
  | _ n ih =>
    cases l with
    | nil => rw [nameF]; simp
    | cons c t =>
      have e3 := escF_le t
      simp only [List.length_cons] at hn
      rw [nameF]
      split
      · have := ih t.length (by omega) t rfl
        show (nameF t).2.1.length ≤ n
        omega
      · split
        · have := ih (escF t).2.1.length (by omega) _ rfl
          show (nameF (escF t).2.1).2.1.length ≤ n
          omega
        · simp only [List.length_cons]; omega
/-- Where an identifier begins, a name takes something. -/
theorem nameF_lt {l : List Int} (h : cont (hd l) = true ∨ escs (hd l) (pk l 1) = true) : (nameF l).2.1.length < l.length := by
  cases l with
  | nil => simp [cont, strt, isDg, escs] at h
  | cons c t =>
    simp only [hd_cons, pk_cons, pk_zero] at h
    have e3 := escF_le t
    rw [nameF]
    by_cases hc : cont c = true
    · rw [if_pos hc]
      have := nameF_le t
      show (nameF t).2.1.length < _
      simp only [List.length_cons]; omega
    · rw [if_neg hc, if_pos (h.resolve_left hc)]
      have := nameF_le (escF t).2.1
      show (nameF (escF t).2.1).2.1.length < _
      simp only [List.length_cons]; omega
theorem badF_le (l : List Int) : (badF l).1.length ≤ l.length := by
  induction hn : l.length using Nat.strongRecOn generalizing l with
  | _ n ih =>
    cases l with
    | nil => rw [badF]; simp
    | cons c t =>
      have e3 := escF_le t
      simp only [List.length_cons] at hn
      rw [badF]
      split
      · simp only; omega
      · split
        · have := ih (escF t).2.1.length (by omega) _ rfl
          simp only; omega
        · have := ih t.length (by omega) t rfl
          omega
theorem spaceF_len (l : List Int) : (spaceF l).length ≤ l.length := (List.dropWhile_sublist (l := l) isSp).length_le
theorem digitF_len (l : List Int) : (digitF l).length ≤ l.length := (List.dropWhile_sublist (l := l) isDg).length_le
theorem urlF_le (l : List Int) : ∀ out, (urlF out l).2.1.length ≤ l.length := by
  induction hn : l.length using Nat.strongRecOn generalizing l with
  | _ n ih =>
    intro out
    cases l with
    | nil => rw [urlF]; simp
    | cons c t =>
      have e3 := escF_le t
      have e4 := spaceF_len t
      have e5 := badF_le (spaceF t)
      have e6 := badF_le (c :: t)
      simp only [List.length_cons] at hn e6
      rw [urlF]
      split
      · simp only; omega
      · split
        · split
          · simp
          · split
            · simp only [List.length_tail]; omega
            · simp only; omega
        · split
          · simp only; omega
          · split
            · have := ih (escF t).2.1.length (by omega) _ rfl (out ++ enc (escF t).1)
              simp only; omega
            · have := ih t.length (by omega) t rfl (out ++ enc c)
              omega
theorem quotF_le (q : Int) (l : List Int) : ∀ out, (quotF q out l).2.1.length ≤ l.length := by
  induction hn : l.length using Nat.strongRecOn generalizing l with
  | _ n ih =>
    intro out
    cases l with
    | nil => rw [quotF]; simp
    | cons c t =>
      have e3 := escF_le t
      have e4 := nlTake_le t
      simp only [List.length_cons] at hn
      rw [quotF]
      split
      · simp only; omega
      · split
        · simp only [List.length_cons]; omega
        · split
          · split
            · have := ih (nlTake t).length (by omega) _ rfl out
              omega
            · split
              · simp
              · have := ih (escF t).2.1.length (by omega) _ rfl (out ++ enc (escF t).1)
                simp only; omega
          · have := ih t.length (by omega) t rfl (out ++ enc c)
            omega
theorem cmtsF_le (l : List Int) : (cmtsF l).1.length ≤ l.length := by
  induction hn : l.length using Nat.strongRecOn generalizing l with
  | _ n ih =>
    rw [cmtsF]
    split
    · split
      · rename_i r h
        have := closeF_le h
        simp only [List.length_drop] at this
        have := ih r.length (by omega) r rfl
        omega
      · simp
    · simp only; omega
theorem num_le (l : List Int) : (num4 l).length ≤ (num2 l).length ∧ (num2 l).length ≤ (num1 l).length ∧ (num1 l).length ≤ l.length := by
  have h1 : (num1 l).length ≤ l.length := by unfold num1; split <;> simp
  have h2 : (num2 l).length ≤ (num1 l).length := digitF_len _
  have h3 : (num3 l).length ≤ (num2 l).length := by
    unfold num3
    split
    · have := digitF_len (num2 l).tail; simp only [List.length_tail] at this; omega
    · omega
  have h4 : (num4 l).length ≤ (num3 l).length := by
    unfold num4
    split
    · have := digitF_len ((num3 l).drop 2); simp only [List.length_drop] at this; omega
    · omega
  omega
theorem digitF_lt {l : List Int} (h : isDg (hd l) = true) : (digitF l).length < l.length := by
  cases l with
  | nil => simp [isDg] at h
  | cons c t =>
    simp only [hd_cons] at h
    have := digitF_len t
    unfold digitF at *
    rw [List.dropWhile_cons, h]
    simp only [if_true, List.length_cons]; omega
theorem num4_lt {l : List Int} (h : cnts (pk l 0) (pk l 1) (pk l 2) = true) : (num4 l).length < l.length := by
  have hl := num_le l
  rw [pk_zero] at h
  by_cases hs : hd l = 43 ∨ hd l = 45
  · have : (num1 l).length < l.length := by
      unfold num1
      rw [if_pos hs]
      cases l with
      | nil => simp at hs
      | cons c t => simp
    omega
  · unfold cnts at h
    rw [if_neg hs] at h
    have h1 : num1 l = l := by unfold num1; rw [if_neg hs]
    by_cases hd' : isDg (hd l) = true
    · have : (num2 l).length < l.length := by unfold num2; rw [h1]; exact digitF_lt hd'
      omega
    · have hdot : hd l = 46 ∧ isDg (pk l 1) = true := by
        cases q : isDg (hd l)
        · rw [q] at h; simpa using h
        · exact absurd q hd'
      have h2 : num2 l = l := by
        unfold num2 digitF
        rw [h1]
        cases l with
        | nil => rfl
        | cons c t => simp only [hd_cons] at hd'; simp [hd']
      have h3 : (num3 l).length < l.length := by
        unfold num3
        rw [h2, if_pos hdot]
        have := digitF_len l.tail
        cases l with
        | nil => simp at hdot
        | cons c t => simp only [List.tail_cons, List.length_cons] at *; omega
      have h4 : (num4 l).length ≤ (num3 l).length := by
        unfold num4
        split
        · have := digitF_len ((num3 l).drop 2); simp only [List.length_drop] at this; omega
        · omega
      omega
theorem numF_lt {l : List Int} (h : cnts (pk l 0) (pk l 1) (pk l 2) = true) : (numF l).2.1.length < l.length := by
  have h4 := num4_lt h
  have := nameF_le (num4 l)
  unfold numF
  split
  · simp only; omega
  · split
    · simp only [List.length_tail]; omega
    · simp only; omega
theorem idnt_takes {l : List Int} (h : idnt (pk l 0) (pk l 1) (pk l 2) = true) : cont (hd l) = true ∨ escs (hd l) (pk l 1) = true := by
  rw [pk_zero] at h
  unfold idnt at h
  split at h
  · rename_i e; left; simp [cont, e]
  · rw [Bool.or_eq_true] at h
    rcases h with h | h
    · left; simp [cont, h]
    · exact .inr h
theorem namedF_lt {l : List Int} (h : idnt (pk l 0) (pk l 1) (pk l 2) = true) : (namedF l).2.1.length < l.length := by
  have h1 := nameF_lt (idnt_takes h)
  have h2 := spaceF_len (nameF l).2.1.tail
  have h3 := urlF_le (spaceF (nameF l).2.1.tail) []
  simp only [List.length_tail] at h2
  unfold namedF
  split
  · split
    · simp only; omega
    · simp only [List.length_tail]; omega
  · simp only; omega
/-- A token takes something. -/
theorem nextF_lt {l : List Int} (h : l ≠ []) : (nextF l).2.1.length < l.length := by
  have ht : l.tail.length < l.length := by
    cases l with
    | nil => exact absurd rfl h
    | cons c t => simp
  have hn := nameF_le l.tail
  unfold nextF
  rw [if_neg h]
  split
  · rename_i hs
    cases l with
    | nil => exact absurd rfl h
    | cons c t =>
      simp only [hd_cons] at hs
      have := spaceF_len t
      unfold spaceF at *
      simp only [List.dropWhile_cons, hs, if_true, List.length_cons]; omega
  · split
    · have := quotF_le (hd l) l.tail []
      omega
    · split
      · simp only; omega
      · split
        · rename_i hc; exact numF_lt hc
        · split
          · have : 0 < l.length := by omega
            simp only [List.length_drop]; omega
          · split
            · rename_i hc; exact namedF_lt hc
            · split
              · simp only [List.length_drop]; omega
              · split
                · simp only; omega
                · exact ht

/-- The tokens of a text, each with what stands at its beginning and at its end; whether the text is left open. -/
def toks (l : List Int) : List (Tok × List Int × List Int) × Bool :=
  if (cmtsF l).1 = [] then ([], (cmtsF l).2)
  else if _h : (nextF (cmtsF l).1).2.1.length < l.length then
    (((nextF (cmtsF l).1).1, (cmtsF l).1, (nextF (cmtsF l).1).2.1) :: (toks (nextF (cmtsF l).1).2.1).1, (cmtsF l).2 || (nextF (cmtsF l).1).2.2 || (toks (nextF (cmtsF l).1).2.1).2)
  else ([], true)
  termination_by l.length
theorem toks_nil {l : List Int} (h : (cmtsF l).1 = []) : toks l = ([], (cmtsF l).2) := by rw [toks, if_pos h]
theorem toks_cons {l : List Int} (h : (cmtsF l).1 ≠ []) :
    toks l = (((nextF (cmtsF l).1).1, (cmtsF l).1, (nextF (cmtsF l).1).2.1) :: (toks (nextF (cmtsF l).1).2.1).1, (cmtsF l).2 || (nextF (cmtsF l).1).2.2 || (toks (nextF (cmtsF l).1).2.1).2) := by
  rw [toks, if_neg h, dif_pos]
  have := nextF_lt h
  have := cmtsF_le l
  omega

end Go.Proofs.YtedckphklebndaaGreatDoor
/- The reference's lexer over lists of code points: what is left is always an end of what stood there. No condition; no program in sight. -/
namespace Go.Proofs.YtedckphklebndaaGreatDoor
open Go
theorem nlTake_suf (l : List Int) : nlTake l <:+ l := by
  cases l with
  | nil => exact List.suffix_refl _
  | cons c t =>
    simp only [nlTake]
    split
    · exact (List.tail_suffix t).trans (List.suffix_cons c t)
    · exact List.suffix_cons c t
theorem hexs_suf (n : Nat) (v : Int) (l : List Int) : (hexs n v l).2 <:+ l := by
  induction n generalizing v l with
  | zero => exact List.suffix_refl _
  | succ n ih =>
    cases l with
    | nil => exact List.suffix_refl _
    | cons c t =>
      unfold hexs
      split
      · exact (ih _ t).trans (List.suffix_cons c t)
      · exact List.suffix_refl _
theorem escRest_suf (l : List Int) : escRest l <:+ l := by
  unfold escRest
  split
  · exact nlTake_suf l
  · split
    · exact List.tail_suffix l
    · exact List.suffix_refl _
theorem escF_suf (l : List Int) : (escF l).2.1 <:+ l := by
  cases l with
  | nil => exact List.suffix_refl _
  | cons c t =>
    simp only [escF]
    split
    · exact List.suffix_cons c t
    · exact (escRest_suf _).trans (hexs_suf _ _ _)
theorem nameF_suf (l : List Int) : (nameF l).2.1 <:+ l := by
  induction hn : l.length using Nat.strongRecOn generalizing l with
  | _ n ih =>
    cases l with
    | nil => rw [nameF]; exact List.suffix_refl _
    | cons c t =>
      have e3 := escF_le t
      simp only [List.length_cons] at hn
      rw [nameF]
      split
      · exact (ih t.length (by omega) t rfl).trans (List.suffix_cons c t)
      · split
        · exact ((ih (escF t).2.1.length (by omega) _ rfl).trans (escF_suf t)).trans (List.suffix_cons c t)
        · exact List.suffix_refl _
theorem spaceF_suf (l : List Int) : spaceF l <:+ l := List.dropWhile_suffix _
theorem digitF_suf (l : List Int) : digitF l <:+ l := List.dropWhile_suffix _
theorem closeF_suf {l r : List Int} (h : closeF l = some r) : r <:+ l := by
  induction l with
  | nil => simp [closeF] at h
  | cons c t ih =>
    unfold closeF at h
    split at h
    · injection h with h; subst h; exact (List.tail_suffix t).trans (List.suffix_cons c t)
    · exact (ih h).trans (List.suffix_cons c t)
theorem cmtsF_suf (l : List Int) : (cmtsF l).1 <:+ l := by
  induction hn : l.length using Nat.strongRecOn generalizing l with
  | _ n ih =>
    rw [cmtsF]
    split
    · split
      · rename_i r h
        have h1 := closeF_le h
        simp only [List.length_drop] at h1
        exact (ih r.length (by omega) r rfl).trans ((closeF_suf h).trans (List.drop_suffix 2 l))
      · exact List.nil_suffix
    · exact List.suffix_refl _
theorem badF_suf (l : List Int) : (badF l).1 <:+ l := by
  induction hn : l.length using Nat.strongRecOn generalizing l with
  | _ n ih =>
    cases l with
    | nil => rw [badF]; exact List.suffix_refl _
    | cons c t =>
      have e3 := escF_le t
      simp only [List.length_cons] at hn
      rw [badF]
      split
      · exact List.suffix_cons c t
      · split
        · exact ((ih (escF t).2.1.length (by omega) _ rfl).trans (escF_suf t)).trans (List.suffix_cons c t)
        · exact (ih t.length (by omega) t rfl).trans (List.suffix_cons c t)
theorem num1_suf (l : List Int) : num1 l <:+ l := by
  unfold num1
  split
  · exact List.tail_suffix l
  · exact List.suffix_refl _
theorem num2_suf (l : List Int) : num2 l <:+ l := (digitF_suf _).trans (num1_suf l)
theorem num3_suf (l : List Int) : num3 l <:+ l := by
  unfold num3
  split
  · exact ((digitF_suf _).trans (List.tail_suffix _)).trans (num2_suf l)
  · exact num2_suf l
theorem num4_suf (l : List Int) : num4 l <:+ l := by
  unfold num4
  split
  · exact ((digitF_suf _).trans (List.drop_suffix _ _)).trans (num3_suf l)
  · exact num3_suf l
theorem numF_suf (l : List Int) : (numF l).2.1 <:+ l := by
  unfold numF
  split
  · exact (nameF_suf _).trans (num4_suf l)
  · split
    · exact (List.tail_suffix _).trans (num4_suf l)
    · exact num4_suf l
theorem urlF_suf (l : List Int) : ∀ out, (urlF out l).2.1 <:+ l := by
  induction hn : l.length using Nat.strongRecOn generalizing l with
  | _ n ih =>
    intro out
    cases l with
    | nil => rw [urlF]; exact List.suffix_refl _
    | cons c t =>
      have e3 := escF_le t
      simp only [List.length_cons] at hn
      rw [urlF]
      split
      · exact List.suffix_cons c t
      · split
        · split
          · exact List.nil_suffix
          · split
            · exact ((List.tail_suffix _).trans (spaceF_suf t)).trans (List.suffix_cons c t)
            · exact ((badF_suf _).trans (spaceF_suf t)).trans (List.suffix_cons c t)
        · split
          · exact badF_suf _
          · split
            · exact ((ih (escF t).2.1.length (by omega) _ rfl _).trans (escF_suf t)).trans (List.suffix_cons c t)
            · exact (ih t.length (by omega) t rfl _).trans (List.suffix_cons c t)
theorem namedF_suf (l : List Int) : (namedF l).2.1 <:+ l := by
  unfold namedF
  split
  · split
    · exact (((urlF_suf _ _).trans (spaceF_suf _)).trans (List.tail_suffix _)).trans (nameF_suf l)
    · exact (List.tail_suffix _).trans (nameF_suf l)
  · exact nameF_suf l
theorem quotF_suf (q : Int) (l : List Int) : ∀ out, (quotF q out l).2.1 <:+ l := by
  induction hn : l.length using Nat.strongRecOn generalizing l with
  | _ n ih =>
    intro out
    cases l with
    | nil => rw [quotF]; exact List.suffix_refl _
    | cons c t =>
      have e3 := escF_le t
      have e4 := nlTake_le t
      simp only [List.length_cons] at hn
      rw [quotF]
      split
      · exact List.suffix_cons c t
      · split
        · exact List.suffix_refl _
        · split
          · split
            · exact ((ih (nlTake t).length (by omega) _ rfl _).trans (nlTake_suf t)).trans (List.suffix_cons c t)
            · split
              · exact List.nil_suffix
              · exact ((ih (escF t).2.1.length (by omega) _ rfl _).trans (escF_suf t)).trans (List.suffix_cons c t)
          · exact (ih t.length (by omega) t rfl _).trans (List.suffix_cons c t)
theorem nextF_suf (l : List Int) : (nextF l).2.1 <:+ l := by
  unfold nextF
  repeat' split
  all_goals first
    | exact List.nil_suffix
    | exact spaceF_suf l
    | exact (quotF_suf _ _ _).trans (List.tail_suffix l)
    | exact (nameF_suf _).trans (List.tail_suffix l)
    | exact numF_suf l
    | exact namedF_suf l
    | exact List.drop_suffix _ l
    | exact List.tail_suffix l
theorem encs_ge (a : List Int) : a.length ≤ (encs a).length := by
  induction a with
  | nil => exact Nat.le_refl _
  | cons c t ih =>
    have := wd_pos c
    simp only [encs, List.length_append, List.length_cons]
    unfold wd at this
    omega
/-- A shorter end stands further on. -/
theorem ps_suf {s : ByteArray} {l l' : List Int} (h : Sfx s l) (e : l' <:+ l) : ps s l + (l.length - l'.length) ≤ ps s l' := by
  obtain ⟨a, rfl⟩ := e
  have h1 := ps_append h
  have h2 := encs_ge a
  simp only [List.length_append]
  omega
theorem Sfx.suf {s : ByteArray} {l l' : List Int} (h : Sfx s l) (e : l' <:+ l) : Sfx s l' := by
  obtain ⟨a, rfl⟩ := e
  obtain ⟨p, hp⟩ := h.pre
  exact ⟨⟨p ++ encs a, by rw [hp, encs_append, List.append_assoc]⟩, h.all.right⟩
end Go.Proofs.YtedckphklebndaaGreatDoor
