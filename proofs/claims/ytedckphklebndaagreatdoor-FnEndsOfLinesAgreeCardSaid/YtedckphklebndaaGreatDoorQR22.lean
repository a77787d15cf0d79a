/- The package's next at a comment. -/
import Derived.Test.YtedckphklebndaaGreatDoorQR21
import Derived.Test.YtedckphklebndaaGreatDoorQR14
namespace Go.Proofs.YtedckphklebndaaGreatDoor
open Go Go.RowKit
set_option maxRecDepth 1000000 in
set_option maxHeartbeats 16000000 in
theorem nx_comment {S : Nat → Prop} {B : Nat} {k : LK} {w0 w : World} {g : Nat} {s : ByteArray} {r : Nat → Value} {st : Nat} {l lt : List Int} {q : Nat} (h : NQ S B k w0 w g s r st l lt q) (hc : hd l = 47) (h42 : pk l 1 = 42) (hT : (toks l).2 = false) (f : Nat → Value) :
    Code.wp Tryz.prog nxBody (NxR S B k w0 g s l) ⟨fr592 (.pointer (some ⟨g, 0, none⟩)) f, []⟩ w := by
  unfold fr592
  conv => arg 2; whnf
  have c36 := h.lq.la.c36
  have c37 := h.lq.la.c37
  have hps := ps_le s l
  have hsz := h.lq.la.size
  have zz : (st : Int) + ((ps s l : Int) - st) = (ps s l : Nat) := by omega
  have b2 : ((ps s l : Nat) : Int) ≤ 2147483647 := by omega
  go_upto_region 1 with (first | (go_at_call 24; refine (End_at _ _ (by omega) _).mono ?_; rintro e w1 ⟨rfl, hk1⟩; have hL := (h.lq.keepA hk1).la; have f36 := hL.frozen 36; have f37 := hL.frozen 37; have f38 := hL.frozen 38; have f39 := hL.frozen 39; have f40 := hL.frozen 40; have d36 := hL.c36; have d37 := hL.c37; have d38 := hL.c38; have d39 := hL.c39; have d40 := hL.c40; clear hL))
  have hQ := (h.lq.keepA hk1).start
  unfold wTok at hQ
  clear f36 f37 f38 f39 f40 d36 d37 d38 d39 d40 c36 c37 hk1 zz b2
  generalize ((((w1.setCell ⟨g, 36, none⟩ (.int .i32 (ps s l : Nat))).setCell ⟨g, 37, none⟩ (.int .i32 0)).setCell ⟨g, 38, none⟩ (.int .u16 0)).setCell ⟨g, 39, none⟩ (.int .u8 0)).setCell ⟨g, 40, none⟩ (.int .u8 0) = wt at hQ ⊢
  have c35 := hQ.la.c35
  obtain ⟨R, hC, hcm, hTR⟩ := toks_close hT hc h42
  rw [drop2] at hC
  have hR2 := closeF_suf hC
  have hR : R <:+ l := hR2.trans ((List.tail_suffix _).trans (List.tail_suffix _))
  have hlen := closeF_le hC
  have h1 := ps_tail_le h.lq.la.sfx
  have h2 := ps_tail_le h.lq.la.sfx.tl
  have hll : l.tail.tail.length + 2 ≤ l.length := by
    cases l with
    | nil => exact absurd hc (by decide)
    | cons c t =>
      cases t with
      | nil => exact absurd h42 (by simp)
      | cons d t => simp
  have hq2 := h.lts (n := 2) hR (by omega)
  rw [pk_one] at h42
  have HC := Lib.hid hc
  have H42 := Lib.hid h42
  rw [hc] at c35
  have hal : ps s l ≤ ps s l.tail.tail := by omega
  have hbb : -2147483648 ≤ ((ps s l.tail.tail : Int) - (ps s l : Nat)) ∧ ((ps s l.tail.tail : Int) - (ps s l : Nat)) ≤ 2147483647 := by have := ps_le s l.tail.tail; omega
  clear hc
  go_wp2_with (fail)
  refine (step_la hQ.la).mono ?_
  rintro e w2 ⟨rfl, hA⟩
  have hQ2 := hQ.stepS hA
  clear hA
  have d35 := hQ2.la.c35
  rw [h42] at d35
  clear h42
  go_wp2_with (fail)
  refine (step_la hQ2.la).mono ?_
  rintro e w3 ⟨rfl, hA⟩
  have hQ3 := hQ2.stepS hA
  clear hA
  have d36 := hQ3.la.c36
  have d37 := hQ3.la.c37
  go_wp2_with (fail)
  refine (consumeToEnd_lq hQ3 h.q hC hal _ hbb).mono ?_
  rintro e w4 ⟨rfl, r4, hQ4, hO4⟩
  go_wp2_with (fail)
  obtain ⟨x, hx⟩ := h.tok34
  exact ⟨⟨rfl, rfl, rfl⟩, .inl ⟨rfl, R.length, by omega, R, r4, _, lt, q + 2, rfl, hcm.symm, hTR, hQ4, hq2, hR.trans h.hs, x, by rw [hO4 34 (by omega)]; exact hx⟩⟩
end Go.Proofs.YtedckphklebndaaGreatDoor
