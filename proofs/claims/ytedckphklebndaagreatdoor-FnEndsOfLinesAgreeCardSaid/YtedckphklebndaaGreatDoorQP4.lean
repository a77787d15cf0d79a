/- The package's consumeNumeric, walked. Conditions: those of the lexer in memory (LA); nothing is left open; the token begins here. -/
import Derived.Test.YtedckphklebndaaGreatDoorQGP1
namespace Go.Proofs.YtedckphklebndaaGreatDoor
open Go Go.RowKit
/-- A loop over digits. -/
def DL (w0 : World) (g : Nat) (s : ByteArray) (r : Nat → Value) (st : Nat) (l : List Int) (k : Nat) (w : World) : Prop :=
  ∃ l', l'.length = k ∧ digitF l' = digitF l ∧ LA w0 w g s r st l'
theorem isDg_iff (c : Int) : isDg c = true ↔ 48 ≤ c ∧ c ≤ 57 := by simp [isDg]
theorem isDg_not {c : Int} (h : isDg c = false) : c < 48 ∨ 57 < c := by simp [isDg] at h; omega
theorem digitF_go {l : List Int} (h : isDg (hd l) = true) : digitF l = digitF l.tail := by
  cases l with
  | nil => simp [isDg] at h
  | cons c t => exact List.dropWhile_cons_of_pos h
theorem digitF_end {l : List Int} (h : isDg (hd l) = false) : digitF l = l := by
  cases l with
  | nil => rfl
  | cons c t => exact List.dropWhile_cons_of_neg (by simpa using h)
theorem LA.c38 {w0 w : World} {g : Nat} {s : ByteArray} {r : Nat → Value} {st : Nat} {l : List Int} (h : LA w0 w g s r st l) : w.cell? ⟨g, 38, none⟩ = some (r 38) := by obtain ⟨_, _, _, hL⟩ := h.lx; exact (blk_cell hL 38).trans rfl
theorem lead_eq {t : List Int} (h : RnAll t) (hn : t ≠ []) {x : Int} (hx : x < 128) : lead (hd t) = x ↔ hd t = x := by
  cases t with
  | nil => exact absurd rfl hn
  | cons c t =>
    simp only [hd_cons]
    by_cases h1 : c < 128
    · rw [lead_low h1]
    · have := lead_high h.head (by omega)
      constructor <;> intro e <;> omega
theorem lead_isDg {t : List Int} (h : RnAll t) (hn : t ≠ []) : isDg (lead (hd t)) = isDg (hd t) := by
  obtain ⟨a, b, _, _⟩ := lead_dg h hn
  cases q : isDg (hd t) with
  | true => have := a q; exact (isDg_iff _).2 this
  | false =>
    have := b q
    cases q2 : isDg (lead (hd t)) with
    | false => rfl
    | true => have := (isDg_iff _).1 q2; omega
theorem isDg_nilhd {t : List Int} (h : t = []) : isDg (hd t) = false := by rw [h]; rfl
theorem expo_byte {s : ByteArray} {m t : List Int} {B C : Int} {sg : Bool} (hS : Sfx s t) (hn : t ≠ []) (hB : lead (hd t) = B) (hsg : ((B == 43 || B == 45) && decide (t.tail ≠ [])) = sg) (hC : (if sg then lead (hd t.tail) else B) = C)
    (hx : expo m = (isDg (hd t) || (hd t == 43 || hd t == 45) && isDg (hd t.tail))) : isDg C = expo m := by
  have h43 := lead_eq hS.all hn (x := 43) (by decide)
  have h45 := lead_eq hS.all hn (x := 45) (by decide)
  rw [hB] at h43 h45
  rw [hx, ← hC]
  have hd1 := lead_isDg hS.all hn
  rw [hB] at hd1
  cases sg with
  | false =>
    rw [if_neg (by decide), hd1]
    have : ((hd t == 43 || hd t == 45) && isDg (hd t.tail)) = false := by
      rw [Bool.and_eq_false_iff] at hsg ⊢
      rcases hsg with e | e
      · left
        simp only [Bool.or_eq_false_iff, beq_eq_false_iff_ne] at e ⊢
        exact ⟨fun q => e.1 (h43.2 q), fun q => e.2 (h45.2 q)⟩
      · right
        exact isDg_nilhd (by simpa using e)
    rw [this, Bool.or_false]
  | true =>
    rw [if_pos rfl]
    rw [Bool.and_eq_true] at hsg
    have hn2 : t.tail ≠ [] := by simpa using hsg.2
    have e := hsg.1
    simp only [Bool.or_eq_true, beq_iff_eq] at e
    have e2 : hd t = 43 ∨ hd t = 45 := e.elim (fun q => .inl (h43.1 q)) (fun q => .inr (h45.1 q))
    have e3 : (hd t == 43 || hd t == 45) = true := by simpa using e2
    have e4 : isDg (hd t) = false := by rcases e2 with q | q <;> rw [q] <;> rfl
    rw [e3, e4, lead_isDg hS.tl.all hn2]; rfl
theorem expo_sign {s : ByteArray} {t : List Int} {B C : Int} {sg : Bool} (hS : Sfx s t) (hn : t ≠ []) (hB : lead (hd t) = B) (hsg : ((B == 43 || B == 45) && decide (t.tail ≠ [])) = sg) (hC : (if sg then lead (hd t.tail) else B) = C) :
    isDg C = true → (sg = true ∧ (hd t = 43 ∨ hd t = 45)) ∨ (sg = false ∧ isDg (hd t) = true) := by
  intro hd0
  have h43 := lead_eq hS.all hn (x := 43) (by decide)
  have h45 := lead_eq hS.all hn (x := 45) (by decide)
  rw [hB] at h43 h45
  have hd1 := lead_isDg hS.all hn
  rw [hB] at hd1
  cases sg with
  | false =>
    right
    rw [if_neg (by decide)] at hC
    exact ⟨rfl, by rw [← hd1, hC]; exact hd0⟩
  | true =>
    left
    rw [Bool.and_eq_true] at hsg
    have e := hsg.1
    simp only [Bool.or_eq_true, beq_iff_eq] at e
    exact ⟨rfl, e.elim (fun q => .inl (h43.1 q)) (fun q => .inr (h45.1 q))⟩
theorem dg3 (c : Int) : (48 ≤ c ∧ c ≤ 57 ∧ isDg c = true) ∨ (c < 48 ∧ isDg c = false) ∨ (57 < c ∧ isDg c = false) := by
  cases h : isDg c with
  | true => have := (isDg_iff c).1 h; exact .inl ⟨this.1, this.2, rfl⟩
  | false => exact .inr ((isDg_not h).elim (fun q => .inl ⟨q, rfl⟩) (fun q => .inr ⟨q, rfl⟩))
theorem numO_no {l : List Int} (h : (numF l).2.2 = false) : (hd (num2 l) == 46) = true → isDg (pk (num2 l) 1) = true := by
  intro e
  have h1 : numO l = false := by
    unfold numF at h
    split at h
    · exact (Bool.or_eq_false_iff.1 h).1
    · split at h <;> exact h
  unfold numO at h1
  rw [e] at h1
  simpa using h1
theorem LA.up38 {w0 w : World} {g : Nat} {s : ByteArray} {r : Nat → Value} {st : Nat} {l : List Int} (h : LA w0 w g s r st l) (v : Value) : LA w0 (w.setCell ⟨g, 38, none⟩ v) g s (up r 38 v) st l := by
  obtain ⟨nl, n0, n1, hL⟩ := h.lx
  have hb := h.big
  have hK : KeepB g w (w.setCell ⟨g, 38, none⟩ v) := (Keep.refl (fun k => k = g) w).setCell (p := ⟨g, 38, none⟩) (fun _ => rfl) _
  exact ⟨⟨nl, n0, n1, (blk_set hL 38 _).trans rfl⟩, h.sfx, h.kp.trans hK, h.size, tabs_keep h.tabs hK (by omega) (by omega), h.big, h.from_⟩
/-- What consumeNumeric leaves of the cells that turn seldom. -/
def numR (r : Nat → Value) (l : List Int) : Nat → Value := if (numF l).1.kind = 26 then up r 38 (.int .u16 ((numF l).1.unit % 65536)) else r
set_option maxRecDepth 100000 in
set_option maxHeartbeats 4000000 in
theorem consumeNumeric_la {w0 w : World} {g : Nat} {s : ByteArray} {r : Nat → Value} {st : Nat} {l : List Int} (h : LA w0 w g s r st l) (ho : (numF l).2.2 = false) (hst : st = ps s l) :
    Calls Tryz.prog 84 #[.pointer (some ⟨g, 0, none⟩)] w fun e w' => e = .returned (.int .u8 (numF l).1.kind) ∧ LA w0 w' g s (numR r l) st (numF l).2.1 := by
  have c35 := h.c35
  have HO := Lib.hid ho
  have HST := Lib.hid hst
  clear ho hst
  go_enter Tryz.func84, Tryz.ntmps84
  go_upto_region 1 with (fail)
  go_cut [16] (fun b wd => BW (hd l == 43 || hd l == 45) w b wd)
  case first => as_aux_lemma =>
    rcases tri2 (hd l == 43) (hd l == 45) with q | ⟨q, q2⟩ | ⟨q, q2⟩
    all_goals
      go_wp2_with fail
      go_meet
      case rel => exact ⟨by simp [*], rfl⟩
  case rest =>
    obtain ⟨rfl, rfl⟩ := hcut
    clear c35
    go_upto_if 16 with (fail)
    go_cut [] (fun wc => LA w0 wc g s r st (num1 l))
    case first => as_aux_lemma =>
      cases q : (hd l == 43 || hd l == 45)
      · have HE : Hid (num1 l = l) := Lib.hid (by unfold num1; rw [if_neg (by simpa using q)])
        go_wp2_with fail
        go_meet
        case rel => rw [HE.out]; exact h
      · have HE : Hid (num1 l = l.tail) := Lib.hid (by unfold num1; rw [if_pos (by simpa using q)])
        go_wp2_with fail
        refine (step_la h).mono ?_
        rintro e w1 ⟨rfl, hA1⟩
        go_wp2_with fail
        go_meet
        case rel => rw [HE.out]; exact hA1
    case rest =>
      have hA1 := hcut
      clear hcut
      go_wp2_with fail
      go_loopg [] (num1 l).length (fun k wr => DL w0 g s r st (num1 l) k wr)
      case atStart => exact ⟨_, rfl, rfl, hA1⟩
      case round => as_aux_lemma =>
        obtain ⟨l', hk, hdf, hB⟩ := hrel
        have HK := Lib.hid hk
        have HDF := Lib.hid hdf
        clear hk hdf
        have c35 := hB.c35
        go_upto_region 3 with (fail)
        go_cut [30] (fun b wd => BW (isDg (hd l')) wr b wd)
        case first => as_aux_lemma =>
          rcases dg3 (hd l') with ⟨q, q2, q3⟩ | ⟨q, q3⟩ | ⟨q, q3⟩
          all_goals
            go_wp2_with fail
            go_meet
            case rel => exact ⟨by rw [q3]; first | done | (simp; omega), rfl⟩
        case rest =>
          obtain ⟨rfl, rfl⟩ := hcut
          clear c35
          cases hc : isDg (hd l') with
          | true =>
            have HC := Lib.hid (digitF_go hc)
            have HLt := Lib.hid (tail_lt (l := l') (by have := (isDg_iff _).1 hc; omega))
            clear hc
            go_wp2_with fail
            refine (step_la hB).mono ?_
            rintro e w9 ⟨rfl, hB2⟩
            go_wp2_with fail
            go_roundg l'.tail.length
            case measure => rw [← HK.out]; exact HLt.out
            case rel => exact ⟨_, rfl, by rw [← HDF.out]; exact HC.out.symm, hB2⟩
          | false =>
            have HC := Lib.hid (digitF_end hc)
            clear hc
            have HL' : Hid (digitF (num1 l) = l') := Lib.hid (by rw [← HDF.out]; exact HC.out)
            have hA2 : LA w0 wr g s r st (num2 l) := by rw [show num2 l = digitF (num1 l) from rfl, HL'.out]; exact hB
            have d35 := hA2.c35
            clear hB HK
            have HNO : Hid ((hd (num2 l) == 46) = true → isDg (pk (num2 l) 1) = true) := Lib.hid (numO_no HO.out)
            go_upto_if 37 with (fail)
            go_cut [] (fun we => LA w0 we g s r st (num3 l))
            case first => as_aux_lemma =>
              cases q : (hd (num2 l) == 46) with
              | false =>
                have HE : Hid (num3 l = num2 l) := Lib.hid (by unfold num3; rw [if_neg (fun e => by simp [e.1] at q)])
                go_wp2_with fail
                go_meet
                case rel => rw [HE.out]; exact hA2
              | true =>
                have HE : Hid (num3 l = digitF (num2 l).tail) := Lib.hid (by unfold num3; rw [if_pos ⟨by simpa using q, HNO.out q⟩])
                go_wp2_with fail
                refine (step_la hA2).mono ?_
                rintro e w3 ⟨rfl, hA3⟩
                go_wp2_with fail
                go_loopg [] ((num2 l).tail).length (fun k wr => DL w0 g s r st ((num2 l).tail) k wr)
                case atStart => exact ⟨_, rfl, rfl, hA3⟩
                case round => as_aux_lemma =>
                  obtain ⟨l', hk, hdf, hB⟩ := hrel
                  have HK := Lib.hid hk
                  have HDF := Lib.hid hdf
                  clear hk hdf
                  have c35 := hB.c35
                  go_upto_region 7 with (fail)
                  go_cut [51] (fun b wd => BW (isDg (hd l')) wr b wd)
                  case first => as_aux_lemma =>
                    rcases dg3 (hd l') with ⟨q, q2, q3⟩ | ⟨q, q3⟩ | ⟨q, q3⟩
                    all_goals
                      go_wp2_with fail
                      go_meet
                      case rel => exact ⟨by rw [q3]; first | done | (simp; omega), rfl⟩
                  case rest =>
                    obtain ⟨rfl, rfl⟩ := hcut
                    clear c35
                    cases hc : isDg (hd l') with
                    | true =>
                      have HC := Lib.hid (digitF_go hc)
                      have HLt := Lib.hid (tail_lt (l := l') (by have := (isDg_iff _).1 hc; omega))
                      clear hc
                      go_wp2_with fail
                      refine (step_la hB).mono ?_
                      rintro e w9 ⟨rfl, hB2⟩
                      go_wp2_with fail
                      go_roundg l'.tail.length
                      case measure => rw [← HK.out]; exact HLt.out
                      case rel => exact ⟨_, rfl, by rw [← HDF.out]; exact HC.out.symm, hB2⟩
                    | false =>
                      have HC := Lib.hid (digitF_end hc)
                      clear hc
                      have HL' : Hid (digitF ((num2 l).tail) = l') := Lib.hid (by rw [← HDF.out]; exact HC.out)
                      go_wp2_with fail
                      go_meet
                      case rel => rw [HE.out, HL'.out]; exact hB
            case rest =>
              have hA3 := hcut
              clear hcut hA2 d35
              have d35 := hA3.c35
              obtain ⟨m, hm⟩ : ∃ x, num3 l = x := ⟨_, rfl⟩
              rw [hm] at hA3 d35
              have HM := Lib.hid hm
              clear hm
              go_upto_region 9 with (fail)
              go_cut [65] (fun b wd => BW (hd m == 101 || hd m == 69) wc b wd)
              case first => as_aux_lemma =>
                rcases tri2 (hd m == 101) (hd m == 69) with q | ⟨q, q2⟩ | ⟨q, q2⟩
                all_goals
                  go_wp2_with fail
                  go_meet
                  case rel => exact ⟨by simp [*], rfl⟩
              case rest =>
                obtain ⟨rfl, rfl⟩ := hcut
                clear d35
                go_upto_if 65 with (fail)
                go_cut [] (fun wf => LA w0 wf g s r st (num4 l))
                case first => as_aux_lemma =>
                  cases q : (hd m == 101 || hd m == 69) with
                  | false =>
                    have HE : Hid (num4 l = m) := Lib.hid (by unfold num4; rw [HM.out, if_neg (by simp [expo, q])])
                    go_wp2_with fail
                    go_meet
                    case rel => rw [HE.out]; exact hA3
                  | true =>
                    have hx : Hid (expo m = (isDg (hd m.tail) || (hd m.tail == 43 || hd m.tail == 45) && isDg (hd m.tail.tail))) := Lib.hid (by unfold expo; rw [q, Bool.true_and, pk_one, pk_two])
                    have hne : hd m ≠ -1 := by intro e; rw [e] at q; simp at q
                    obtain ⟨t, ht⟩ : ∃ x, m.tail = x := ⟨_, rfl⟩
                    rw [ht] at hx
                    have d10 := hA3.c10
                    have d33 := hA3.c33
                    have hS := hA3.sfx.tl
                    have hsz := hA3.size
                    rw [ht] at d33 hS
                    have b1 := ps_le s t
                    have HTT := Lib.hid ht
                    have HF : Hid (expo m = false → num4 l = m) := Lib.hid (fun e => by unfold num4; rw [HM.out, e]; rfl)
                    have HG : Hid (expo m = true → num4 l = digitF t.tail) := Lib.hid (fun e => by unfold num4; rw [HM.out, e, drop2, ht]; rfl)
                    clear q ht hne
                    by_cases hn : t = []
                    · have hp : ps s t = s.size := by rw [hn]; simp
                      have HE : Hid (num4 l = m) := Lib.hid (HF.out (by rw [hx.out, hn]; rfl))
                      clear hn hx HF HG
                      go_wp2_with fail
                      go_meet
                      case rel => rw [HE.out]; exact hA3
                    · have hlt := ps_lt' hS hn
                      have hby := byte_hd hS hn
                      obtain ⟨B, hB⟩ : ∃ B, lead (hd t) = B := ⟨_, rfl⟩
                      have hBr : 0 ≤ B ∧ B < 256 := by
                        rw [← hB]
                        cases t with
                        | nil => exact absurd rfl hn
                        | cons c t => exact lead_byte hS.all.head
                      have HB := Lib.hid hB
                      have HN := Lib.hid hn
                      rw [hB] at hby
                      clear hn hB
                      go_upto_region 13 with (fail)
                      go_cut [99] (fun b wd => BW ((B == 43 || B == 45) && decide (t.tail ≠ [])) wc b wd)
                      case first => as_aux_lemma =>
                        have h43 := lead_eq hS.all HN.out (x := 43) (by decide)
                        have h45 := lead_eq hS.all HN.out (x := 45) (by decide)
                        rw [HB.out] at h43 h45
                        rcases tri2 (B == 43) (B == 45) with q | ⟨q, q2⟩ | ⟨q, q2⟩
                        · have hp2 : (ps s t : Int) + 1 = (ps s t.tail : Nat) := by
                            have := h43.1 (by simpa using q)
                            have := ps_ascii hS (by omega) (by omega)
                            omega
                          by_cases hn2 : t.tail = []
                          · have hp : ps s t.tail = s.size := by rw [hn2]; simp
                            have HR : Hid (decide (t.tail ≠ []) = false) := Lib.hid (by simp [hn2])
                            clear hn2 h43 h45
                            go_wp2_with fail
                            go_meet
                            case rel => exact ⟨by rw [HR.out]; simp, rfl⟩
                          · have hp := ps_lt' hS.tl hn2
                            have HR : Hid (decide (t.tail ≠ []) = true) := Lib.hid (by simp [hn2])
                            clear hn2 h43 h45
                            go_wp2_with fail
                            go_meet
                            case rel => exact ⟨by rw [HR.out, q]; rfl, rfl⟩
                        · have hp2 : (ps s t : Int) + 1 = (ps s t.tail : Nat) := by
                            have := h45.1 (by simpa using q2)
                            have := ps_ascii hS (by omega) (by omega)
                            omega
                          by_cases hn2 : t.tail = []
                          · have hp : ps s t.tail = s.size := by rw [hn2]; simp
                            have HR : Hid (decide (t.tail ≠ []) = false) := Lib.hid (by simp [hn2])
                            clear hn2 h43 h45
                            go_wp2_with fail
                            go_meet
                            case rel => exact ⟨by rw [HR.out]; simp, rfl⟩
                          · have hp := ps_lt' hS.tl hn2
                            have HR : Hid (decide (t.tail ≠ []) = true) := Lib.hid (by simp [hn2])
                            clear hn2 h43 h45
                            go_wp2_with fail
                            go_meet
                            case rel => exact ⟨by rw [HR.out, q, q2]; rfl, rfl⟩
                        · clear h43 h45
                          go_wp2_with fail
                          go_meet
                          case rel => exact ⟨by rw [q, q2]; rfl, rfl⟩
                      case rest =>
                        obtain ⟨rfl, rfl⟩ := hcut
                        obtain ⟨sg, hsg⟩ : ∃ x, ((B == 43 || B == 45) && decide (t.tail ≠ [])) = x := ⟨_, rfl⟩
                        rw [hsg]
                        have HSG := Lib.hid hsg
                        clear hsg
                        go_upto_if 99 with (fail)
                        go_cut [4] (fun v wd => v = .int .u8 (if sg then lead (hd t.tail) else B) ∧ wc = wd)
                        case first => as_aux_lemma =>
                          cases sg with
                          | false =>
                            go_wp2_with fail
                            go_meet
                            case rel => exact ⟨rfl, rfl⟩
                          | true =>
                            have e := HSG.out
                            rw [Bool.and_eq_true] at e
                            have hn2 : t.tail ≠ [] := by simpa using e.2
                            have h43 := lead_eq hS.all HN.out (x := 43) (by decide)
                            have h45 := lead_eq hS.all HN.out (x := 45) (by decide)
                            rw [HB.out] at h43 h45
                            have hp2 : (ps s t : Int) + 1 = (ps s t.tail : Nat) := by
                              have h1 := e.1
                              simp only [Bool.or_eq_true, beq_iff_eq] at h1
                              have h2 : hd t = 43 ∨ hd t = 45 := h1.elim (fun q => .inl (h43.1 q)) (fun q => .inr (h45.1 q))
                              have := ps_ascii hS (by omega) (by omega)
                              omega
                            have hlt2 := ps_lt' hS.tl hn2
                            have hby2 := byte_hd hS.tl hn2
                            clear e hn2 h43 h45
                            go_wp2_with fail
                            go_meet
                            case rel => exact ⟨rfl, rfl⟩
                        case rest =>
                          obtain ⟨rfl, rfl⟩ := hcut
                          obtain ⟨C, hC⟩ : ∃ x, (if sg then lead (hd t.tail) else B) = x := ⟨_, rfl⟩
                          rw [hC]
                          have HCX : Hid (isDg C = expo m) := Lib.hid (expo_byte hS HN.out HB.out HSG.out hC hx.out)
                          have HS2 : Hid (isDg C = true → (sg = true ∧ (hd t = 43 ∨ hd t = 45)) ∨ (sg = false ∧ isDg (hd t) = true)) := Lib.hid (expo_sign hS HN.out HB.out HSG.out hC)
                          clear hC hx hby hBr
                          go_upto_region 15 with (fail)
                          go_cut [112] (fun b wd => BW (isDg C) wc b wd)
                          case first => as_aux_lemma =>
                            rcases dg3 C with ⟨q, q2, q3⟩ | ⟨q, q3⟩ | ⟨q, q3⟩
                            all_goals
                              go_wp2_with fail
                              go_meet
                              case rel => exact ⟨by rw [q3]; first | done | (simp; omega), rfl⟩
                          case rest =>
                            obtain ⟨rfl, rfl⟩ := hcut
                            cases hdc : isDg C with
                            | false =>
                              have HE : Hid (num4 l = m) := Lib.hid (HF.out (by rw [← HCX.out]; exact hdc))
                              go_wp2_with fail
                              go_meet
                              case rel => rw [HE.out]; exact hA3
                            | true =>
                              have HE : Hid (num4 l = digitF t.tail) := Lib.hid (HG.out (by rw [← HCX.out]; exact hdc))
                              have HS3 := Lib.hid (HS2.out hdc)
                              clear hdc HF HG HCX HS2
                              go_wp2_with fail
                              refine (step_la hA3).mono ?_
                              rintro e w5 ⟨rfl, hA5⟩
                              rw [HTT.out] at hA5
                              have e35 := hA5.c35
                              go_upto_region 17 with (fail)
                              go_cut [126] (fun b wd => BW (hd t == 43 || hd t == 45) w5 b wd)
                              case first => as_aux_lemma =>
                                rcases tri2 (hd t == 43) (hd t == 45) with q | ⟨q, q2⟩ | ⟨q, q2⟩
                                all_goals
                                  go_wp2_with fail
                                  go_meet
                                  case rel => exact ⟨by simp [*], rfl⟩
                              case rest =>
                                obtain ⟨rfl, rfl⟩ := hcut
                                clear e35
                                go_upto_if 126 with (fail)
                                go_cut [] (fun wd => LA w0 wd g s r st (if sg then t.tail else t))
                                case first => as_aux_lemma =>
                                  cases q : (hd t == 43 || hd t == 45) with
                                  | false =>
                                    have hq : sg = false := by
                                      rcases HS3.out with ⟨_, e | e⟩ | ⟨e, _⟩
                                      · rw [e] at q; cases q
                                      · rw [e] at q; cases q
                                      · exact e
                                    have HQ := Lib.hid hq
                                    clear hq
                                    go_wp2_with fail
                                    go_meet
                                    case rel => rw [HQ.out]; exact hA5
                                  | true =>
                                    have hq : sg = true := by
                                      rcases HS3.out with ⟨e, _⟩ | ⟨_, e⟩
                                      · exact e
                                      · have h1 := (isDg_iff _).1 e
                                        simp only [Bool.or_eq_true, beq_iff_eq] at q
                                        omega
                                    have HQ := Lib.hid hq
                                    clear hq
                                    go_wp2_with fail
                                    refine (step_la hA5).mono ?_
                                    rintro e w6 ⟨rfl, hA6⟩
                                    go_wp2_with fail
                                    go_meet
                                    case rel => rw [HQ.out]; exact hA6
                                case rest =>
                                  have hA6 := hcut
                                  clear hcut hA5
                                  have HE2 : Hid (num4 l = digitF (if sg then t.tail else t)) := Lib.hid (by
                                    rw [HE.out]
                                    rcases HS3.out with ⟨e, _⟩ | ⟨e, e2⟩
                                    · rw [e]; rfl
                                    · rw [e]; exact (digitF_go e2).symm)
                                  obtain ⟨t2, ht2⟩ : ∃ x, (if sg then t.tail else t) = x := ⟨_, rfl⟩
                                  rw [ht2] at hA6 HE2
                                  clear ht2
                                  go_wp2_with fail
                                  go_loopg [] (t2).length (fun k wr => DL w0 g s r st (t2) k wr)
                                  case atStart => exact ⟨_, rfl, rfl, hA6⟩
                                  case round => as_aux_lemma =>
                                    obtain ⟨l', hk, hdf, hB⟩ := hrel
                                    have HK := Lib.hid hk
                                    have HDF := Lib.hid hdf
                                    clear hk hdf
                                    have c35 := hB.c35
                                    go_upto_region 19 with (fail)
                                    go_cut [140] (fun b wd => BW (isDg (hd l')) wr b wd)
                                    case first => as_aux_lemma =>
                                      rcases dg3 (hd l') with ⟨q, q2, q3⟩ | ⟨q, q3⟩ | ⟨q, q3⟩
                                      all_goals
                                        go_wp2_with fail
                                        go_meet
                                        case rel => exact ⟨by rw [q3]; first | done | (simp; omega), rfl⟩
                                    case rest =>
                                      obtain ⟨rfl, rfl⟩ := hcut
                                      clear c35
                                      cases hc : isDg (hd l') with
                                      | true =>
                                        have HC := Lib.hid (digitF_go hc)
                                        have HLt := Lib.hid (tail_lt (l := l') (by have := (isDg_iff _).1 hc; omega))
                                        clear hc
                                        go_wp2_with fail
                                        refine (step_la hB).mono ?_
                                        rintro e w9 ⟨rfl, hB2⟩
                                        go_wp2_with fail
                                        go_roundg l'.tail.length
                                        case measure => rw [← HK.out]; exact HLt.out
                                        case rel => exact ⟨_, rfl, by rw [← HDF.out]; exact HC.out.symm, hB2⟩
                                      | false =>
                                        have HC := Lib.hid (digitF_end hc)
                                        clear hc
                                        have HL' : Hid (digitF (t2) = l') := Lib.hid (by rw [← HDF.out]; exact HC.out)
                                        go_wp2_with fail
                                        go_meet
                                        case rel => rw [HE2.out, HL'.out]; exact hB
                case rest =>
                  have hA4 := hcut
                  clear hcut hA3
                  obtain ⟨m4, hm4⟩ : ∃ x, num4 l = x := ⟨_, rfl⟩
                  rw [hm4] at hA4
                  have HM4 := Lib.hid hm4
                  clear hm4
                  cases hid : idnt (hd m4) (pk m4 1) (pk m4 2) with
                  | true =>
                    have HE : Hid (numF l = ({ kind := 26, unit := ((encs l).length : Int) - (encs m4).length }, (nameF m4).2.1, numO l || (nameF m4).2.2)) := Lib.hid (by unfold numF; rw [HM4.out, pk_zero, if_pos hid])
                    have HO4 : Hid ((nameF m4).2.2 = false) := Lib.hid (by
                      have := HO.out
                      rw [HE.out] at this
                      exact (Bool.or_eq_false_iff.1 this).2)
                    have HU : Hid ((ps s m4 : Int) - st = ((encs l).length : Int) - (encs m4).length) := Lib.hid (by
                      have h1 := h.sfx.fits
                      have h2 := hA4.sfx.fits
                      rw [HST.out]
                      unfold ps
                      omega)
                    go_wp2_with fail
                    refine (wouldStartIdentifier_la hA4).mono ?_
                    rintro e w7 ⟨rfl, hk7⟩
                    rw [hid]
                    have hA5 := hA4.keepA hk7
                    have f37 := hA5.c37
                    rw [HU.out] at f37
                    have f38 := hA5.frozen 38
                    have f38c : w7.cell? ⟨g, 38, none⟩ = some (r 38) := hA5.c38
                    go_wp2_with fail
                    refine (consumeName_la (hA5.up38 _) HO4.out).mono ?_
                    rintro e w8 ⟨R, rfl, _, hA8⟩
                    have HR : Hid (numR r l = up r 38 (.int .u16 (IntKind.u16.wrap (((encs l).length : Int) - (encs m4).length)))) := Lib.hid (by
                      unfold numR
                      rw [HE.out, if_pos rfl, IntKind.wrap_u16])
                    have HA := Lib.hid hA8
                    clear hA8 f37 f38 f38c hA5 hA4 h
                    go_wp2_with fail
                    go_ret
                    refine ⟨by rw [HE.out]; rfl, ?_⟩
                    rw [HR.out, HE.out]
                    exact HA.out
                  | false =>
                    cases q : (hd m4 == 37) with
                    | true =>
                      have HE : Hid (numF l = ({ kind := 34 }, m4.tail, numO l)) := Lib.hid (by unfold numF; rw [HM4.out, pk_zero, if_neg (by rw [hid]; decide), if_pos (by simpa using q)])
                      have HR : Hid (numR r l = r) := Lib.hid (by unfold numR; rw [HE.out, if_neg (by simp)])
                      go_wp2_with fail
                      refine (wouldStartIdentifier_la hA4).mono ?_
                      rintro e w7 ⟨rfl, hk7⟩
                      rw [hid]
                      have hA5 := hA4.keepA hk7
                      have d35 := hA5.c35
                      go_wp2_with fail
                      refine (step_la hA5).mono ?_
                      rintro e w8 ⟨rfl, hA8⟩
                      go_wp2_with fail
                      go_ret
                      refine ⟨by rw [HE.out]; rfl, ?_⟩
                      rw [HR.out, HE.out]
                      exact hA8
                    | false =>
                      have HE : Hid (numF l = ({ kind := 30 }, m4, numO l)) := Lib.hid (by unfold numF; rw [HM4.out, pk_zero, if_neg (by rw [hid]; decide), if_neg (by simpa using q)])
                      have HR : Hid (numR r l = r) := Lib.hid (by unfold numR; rw [HE.out, if_neg (by simp)])
                      go_wp2_with fail
                      refine (wouldStartIdentifier_la hA4).mono ?_
                      rintro e w7 ⟨rfl, hk7⟩
                      rw [hid]
                      have hA5 := hA4.keepA hk7
                      have d35 := hA5.c35
                      go_wp2_with fail
                      go_ret
                      refine ⟨by rw [HE.out]; rfl, ?_⟩
                      rw [HR.out, HE.out]
                      exact hA5
end Go.Proofs.YtedckphklebndaaGreatDoor
