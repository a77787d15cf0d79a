/- The package's consumeString, walked. Conditions: those of the lexer in memory with its log (LQ); nothing is left open. -/
import Derived.Test.YtedckphklebndaaGreatDoorQGZ0
namespace Go.Proofs.YtedckphklebndaaGreatDoor
open Go Go.RowKit
section
variable {S : Nat → Prop} {B : Nat} {k : LK} {w0 w w1 : World} {g : Nat} {s : ByteArray} {r r' : Nat → Value} {st st' : Nat} {l l' lt : List Int} {q : Nat}
/-- The cells of the log. -/
def LC (k : LK) (g : Nat) (w : World) : Prop :=
  w.cell? ⟨g, 1, none⟩ = some (.func (.func 48) #[] #[.pointer (some ⟨k.kd, 0, none⟩), .pointer (some ⟨k.mu, 0, none⟩), .pointer (some ⟨k.he, 0, none⟩), .pointer (some ⟨k.ms, 0, none⟩)]) ∧
  w.cell? ⟨g, 2, none⟩ = some (.func (.func 51) #[] #[.pointer (some ⟨k.mu, 0, none⟩), .pointer (some ⟨k.he, 0, none⟩)]) ∧
  w.cell? ⟨g, 3, none⟩ = some (.func (.func 52) #[] #[.pointer (some ⟨k.mu, 0, none⟩), .pointer (some ⟨k.ms, 0, none⟩)]) ∧
  w.cell? ⟨g, 4, none⟩ = some (.func (.func 53) #[] #[.pointer (some ⟨k.mu, 0, none⟩), .pointer (some ⟨k.ms, 0, none⟩)]) ∧
  w.cell? ⟨g, 5, none⟩ = some (.int .i8 3) ∧ w.cell? ⟨g, 6, none⟩ = some (.map none)
theorem LQ.lc (h : LQ S B k w0 w g s r st l lt q) : LC k g w := by
  refine ⟨?_, ?_, ?_, ?_, ?_, ?_⟩
  · rw [h.la.c1, h.c1 0 (by decide)]; rfl
  · rw [h.la.c2, h.c1 1 (by decide)]; rfl
  · rw [h.la.c3, h.c1 2 (by decide)]; rfl
  · rw [h.la.c4, h.c1 3 (by decide)]; rfl
  · rw [h.la.c5, h.c1 4 (by decide)]; rfl
  · rw [h.la.c6, h.c1 5 (by decide)]; rfl
/-- What a token's function leaves: so much read, at most one message more. -/
def QP (S : Nat → Prop) (B : Nat) (k : LK) (w0 : World) (g : Nat) (s : ByteArray) (r : Nat → Value) (st : Nat) (R : List Int) (q : Nat) (K : Int) (e : Ending) (w' : World) : Prop :=
  e = .returned (.int .u8 K) ∧ ∃ r' lt', LQ S B k w0 w' g s r' st R lt' (q + 1) ∧ Out 25 30 r r' ∧ R <:+ lt'
/-- consumeString's loop. -/
def QK (S : Nat → Prop) (B : Nat) (k : LK) (w0 : World) (g : Nat) (s : ByteArray) (r : Nat → Value) (st : Nat) (qu : Int) (T : Int × List Int) (lt : List Int) (q : Nat) (n : Nat) (w : World) : Prop :=
  ∃ li, li.length = n ∧ scanQ qu li = T ∧ li <:+ lt ∧ LQ S B k w0 w g s r st li lt q
end
theorem nlTake_cr {m : List Int} (h : hd m = 13) : nlTake m = if hd m.tail = 10 then m.tail.tail else m.tail := by
  cases m with
  | nil => simp at h
  | cons c t =>
    simp only [hd_cons] at h
    rw [nlTake, List.tail_cons]
    by_cases e : hd t = 10
    · rw [if_pos ⟨h, e⟩, if_pos e]
    · rw [if_neg (fun q => e q.2), if_neg e]
theorem nlTake_lf {m : List Int} (h : isNL (hd m) = true) (h13 : hd m ≠ 13) : nlTake m = m.tail := by
  cases m with
  | nil => simp [isNL] at h
  | cons c t => simp only [hd_cons] at h13; simp only [nlTake, List.tail_cons]; rw [if_neg (fun q => h13 q.1)]
theorem scanQ_ne {q : Int} {l : List Int} {T : Int × List Int} (h : scanQ q l = T) (hT : T.1 = 2 → isNL (hd T.2) = true) : l ≠ [] := by
  rintro rfl
  rw [scanQ_nil] at h
  subst h
  have := hT rfl
  simp [isNL] at this
set_option maxRecDepth 100000 in
set_option maxHeartbeats 4000000 in
theorem consumeString_lq {S : Nat → Prop} {B : Nat} {k : LK} {w0 w : World} {g : Nat} {s : ByteArray} {r : Nat → Value} {st : Nat} {l lt : List Int} {q : Nat} (h : LQ S B k w0 w g s r st l lt q) (hs : l <:+ lt) (hq : q ≤ 1073741824) (hqu : hd l = 34 ∨ hd l = 39) {T : Int × List Int} (hT : scanQ (hd l) l.tail = T) (hT2 : T.1 = 2 → isNL (hd T.2) = true) :
    Calls Tryz.prog 78 #[.pointer (some ⟨g, 0, none⟩)] w (QP S B k w0 g s r st T.2 q T.1) := by
  have c35 := h.la.c35
  obtain ⟨qu, hqe⟩ : ∃ x, hd l = x := ⟨_, rfl⟩
  rw [hqe] at c35 hqu hT
  have HT := Lib.hid hT
  have HT2 := Lib.hid hT2
  clear hT hT2 hqe
  go_enter Tryz.func78, Tryz.ntmps78
  go_wp2_with fail
  refine (step_la h.la).mono ?_
  rintro e w1 ⟨rfl, hA1⟩
  have hQ1 := h.stepS hA1
  have hs1 : l.tail <:+ lt := (List.tail_suffix l).trans hs
  clear h hA1 hs c35
  go_wp2_with fail
  go_loopg [] l.tail.length (fun n wr => QK S B k w0 g s r st qu T lt q n wr)
  case atStart => exact ⟨l.tail, rfl, HT.out, hs1, hQ1⟩
  case round =>
    obtain ⟨li, hk, hsc, hsu, hQ⟩ := hrel
    clear hQ1 hs1 HT
    have hne := scanQ_ne hsc HT2.out
    have hm1 : (hd li == -1) = false := by
      have := (hd_rn hQ.la.sfx.all (by
        cases li with
        | nil => exact absurd rfl hne
        | cons c t => have := hQ.la.sfx.all.head.1; simp only [hd_cons]; omega)).1
      simp only [beq_eq_false_iff_ne]; omega
    have HK := Lib.hid hk
    have HNE := Lib.hid hne
    have HLt := Lib.hid (tail_lt' hne)
    have c35 := hQ.la.c35
    clear hk hne
    by_cases h92 : hd li = 92
    · have k1 : (hd li == 92) = true := by simp [h92]
      have hb := scanQ_bs (q := qu) (by rcases hqu with e | e <;> omega) h92
      rw [hsc] at hb
      have HB := Lib.hid hb
      clear h92 hb hsc
      go_wp2_with fail
      refine (step_la hQ.la).mono ?_
      rintro e w2 ⟨rfl, hA2⟩
      have hQ2 := hQ.stepS hA2
      have d35 := hQ2.la.c35
      have hs2 : li.tail <:+ lt := (List.tail_suffix _).trans hsu
      clear c35 hQ hA2
      obtain ⟨m, hm⟩ : ∃ x, li.tail = x := ⟨_, rfl⟩
      rw [hm] at hQ2 d35 hs2 HB
      have HLm : Hid (m.length < li.length) := Lib.hid (by rw [← hm]; exact HLt.out)
      clear hm
      by_cases h13 : hd m = 13
      · have k2 : (hd m == 13) = true := by simp [h13]
        have hb2 := HB.out
        rw [if_pos (by rw [h13]; decide)] at hb2
        have hnt := nlTake_cr h13
        rw [hnt] at hb2
        have HB2 := Lib.hid hb2
        clear h13 hb2 hnt HB
        go_wp2_with fail
        refine (step_la hQ2.la).mono ?_
        rintro e w3 ⟨rfl, hA3⟩
        have hQ3 := hQ2.stepS hA3
        have e35 := hQ3.la.c35
        have hs3 : m.tail <:+ lt := (List.tail_suffix _).trans hs2
        clear d35 hQ2 hA3
        by_cases h10 : hd m.tail = 10
        · have k3 : (hd m.tail == 10) = true := by simp [h10]
          have hb3 := HB2.out
          rw [if_pos h10] at hb3
          have HB3 := Lib.hid hb3
          clear h10 hb3
          go_wp2_with fail
          refine (step_la hQ3.la).mono ?_
          rintro e w4 ⟨rfl, hA4⟩
          have hQ4 := hQ3.stepS hA4
          clear hA4
          go_wp2_with fail
          go_roundg m.tail.tail.length
          case measure => have := HLm.out; have := HK.out; simp only [List.length_tail]; omega
          case rel => exact ⟨_, rfl, HB3.out.symm, (List.tail_suffix _).trans hs3, hQ4⟩
        · have k3 : (hd m.tail == 10) = false := by simp [h10]
          have hb3 := HB2.out
          rw [if_neg h10] at hb3
          have HB3 := Lib.hid hb3
          clear h10 hb3
          go_wp2_with fail
          go_roundg m.tail.length
          case measure => have := HLm.out; have := HK.out; simp only [List.length_tail]; omega
          case rel => exact ⟨_, rfl, HB3.out.symm, hs3, hQ3⟩
      · have k2 : (hd m == 13) = false := by simp [h13]
        have HB2 : Hid (scanQ qu m.tail = T) := Lib.hid (by
          have hb2 := HB.out
          split at hb2
          · rename_i e
            rw [nlTake_lf e h13] at hb2
            exact hb2.symm
          · exact hb2.symm)
        clear h13 HB
        go_wp2_with fail
        refine (step_la hQ2.la).mono ?_
        rintro e w3 ⟨rfl, hA3⟩
        have hQ3 := hQ2.stepS hA3
        clear hA3
        go_wp2_with fail
        go_roundg m.tail.length
        case measure => have := HLm.out; have := HK.out; simp only [List.length_tail]; omega
        case rel => exact ⟨_, rfl, HB2.out, (List.tail_suffix _).trans hs2, hQ3⟩
    · have k1 : (hd li == 92) = false := by simp [h92]
      by_cases hnl : isNL (hd li) = true
      · have hqn : hd li ≠ qu := by
          intro e
          rw [e] at hnl
          rcases hqu with e | e <;> rw [e] at hnl <;> simp [isNL] at hnl
        have hb := scanQ_line hqn hnl
        rw [hsc] at hb
        have HB := Lib.hid hb
        have hk : (hd li == 10) = true ∨ ((hd li == 10) = false ∧ (hd li == 13) = true) ∨ ((hd li == 10) = false ∧ (hd li == 13) = false ∧ (hd li == 12) = true) := by
          unfold isNL at hnl
          cases q1 : (hd li == 10) with
          | true => exact .inl rfl
          | false =>
            cases q2 : (hd li == 13) with
            | true => exact .inr (.inl ⟨rfl, rfl⟩)
            | false => rw [q1, q2] at hnl; exact .inr (.inr ⟨rfl, rfl, by simpa using hnl⟩)
        clear h92 hnl hqn hb hsc
        have hQd := hQ.keepA ((Keep.refl (fun _ => False) wr).drew)
        obtain ⟨l1, l2, l3, l4, l5, l6⟩ := hQ.lc
        have c36 := hQ.la.c36
        have c37 := hQ.la.c37
        have b1 := ps_le s li
        have b2 : ps s li ≤ 1073741824 := Nat.le_trans b1 hQ.la.size
        rcases hk with k2 | ⟨k2, k3⟩ | ⟨k2, k3, k4⟩
        all_goals
          go_wp2_with fail
          go_region_held3 (fun w' => w'.cell? ⟨g, 1, none⟩ = some (.func (.func 48) #[] #[.pointer (some ⟨k.kd, 0, none⟩), .pointer (some ⟨k.mu, 0, none⟩), .pointer (some ⟨k.he, 0, none⟩), .pointer (some ⟨k.ms, 0, none⟩)]) ∧
            w'.cell? ⟨g, 2, none⟩ = some (.func (.func 51) #[] #[.pointer (some ⟨k.mu, 0, none⟩), .pointer (some ⟨k.he, 0, none⟩)]) ∧
            w'.cell? ⟨g, 3, none⟩ = some (.func (.func 52) #[] #[.pointer (some ⟨k.mu, 0, none⟩), .pointer (some ⟨k.ms, 0, none⟩)]) ∧
            w'.cell? ⟨g, 4, none⟩ = some (.func (.func 53) #[] #[.pointer (some ⟨k.mu, 0, none⟩), .pointer (some ⟨k.ms, 0, none⟩)]) ∧
            w'.cell? ⟨g, 5, none⟩ = some (.int .i8 3) ∧ w'.cell? ⟨g, 6, none⟩ = some (.map none) ∧ w'.cell? ⟨g, 36, none⟩ = some (.int .i32 st) ∧ w'.cell? ⟨g, 37, none⟩ = some (.int .i32 ((ps s li : Int) - st))) (go_keep)
            (first
              | (go_at_call 24; refine (End_at _ _ b2 _).mono ?_; rintro e w2 ⟨rfl, hk2⟩; have hQ2 := hQd.keepA hk2; obtain ⟨m1, m2, m3, m4, m5, m6⟩ := hQ2.lc; have d36 := hQ2.la.c36; have d37 := hQ2.la.c37)
              | (go_at_call 77; refine (AddID_lq hQ2 hsu (by omega) 34 (.inl rfl) rfl (by decide) _).mono ?_; rintro e w3 ⟨rfl, r3, hQ3, hO3, _⟩; obtain ⟨m1, m2, m3, m4, m5, m6⟩ := hQ3.lc; have d36 := hQ3.la.c36; have d37 := hQ3.la.c37))
          all_goals
            go_wp2_with fail
            go_ret
            refine ⟨by rw [HB.out]; rfl, r3, li, ?_, hO3, ?_⟩
            · rw [HB.out]; exact hQ3
            · rw [HB.out]; exact List.suffix_refl _
      · have hnl' : isNL (hd li) = false := by simpa using hnl
        have k2 : (hd li == 10) = false ∧ (hd li == 13) = false ∧ (hd li == 12) = false := by
          unfold isNL at hnl'
          simp only [Bool.or_eq_false_iff] at hnl'
          exact ⟨hnl'.1.1, hnl'.1.2, hnl'.2⟩
        obtain ⟨k2, k3, k4⟩ := k2
        by_cases hqe : hd li = qu
        · have k5 : (hd li == qu) = true := by simp [hqe]
          have hb := scanQ_end HNE.out hqe
          rw [hsc] at hb
          have HB := Lib.hid hb
          clear h92 hnl hnl' hqe hb hsc
          go_wp2_with fail
          refine (step_la hQ.la).mono ?_
          rintro e w2 ⟨rfl, hA2⟩
          have hQ2 := hQ.stepS hA2
          clear hA2 hQ
          go_wp2_with fail
          go_ret
          refine ⟨by rw [HB.out]; rfl, r, lt, ?_, Out.refl _ _ _, ?_⟩
          · rw [HB.out]; exact hQ2.more (Nat.le_succ _)
          · rw [HB.out]; exact (List.tail_suffix _).trans hsu
        · have k5 : (hd li == qu) = false := by simp [hqe]
          have hb := scanQ_go HNE.out hqe hnl' h92
          rw [hsc] at hb
          have HB := Lib.hid hb
          clear h92 hnl hnl' hqe hb hsc
          go_wp2_with fail
          refine (step_la hQ.la).mono ?_
          rintro e w2 ⟨rfl, hA2⟩
          have hQ2 := hQ.stepS hA2
          clear hA2 hQ
          go_wp2_with fail
          go_roundg li.tail.length
          case measure => have := HLt.out; have := HK.out; unfold tailLt at *; omega
          case rel => exact ⟨_, rfl, HB.out.symm, (List.tail_suffix _).trans hsu, hQ2⟩
end Go.Proofs.YtedckphklebndaaGreatDoor
