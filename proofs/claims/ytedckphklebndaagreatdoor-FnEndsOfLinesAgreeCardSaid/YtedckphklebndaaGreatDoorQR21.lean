/- The package's next at hashes, at-signs, a lone backslash. -/
import Derived.Test.YtedckphklebndaaGreatDoorQR20
namespace Go.Proofs.YtedckphklebndaaGreatDoor
open Go Go.RowKit
section
variable {S : Nat → Prop} {B : Nat} {k : LK} {w0 w w2 : World} {g : Nat} {s : ByteArray} {r r2 : Nat → Value} {st : Nat} {l R lt lt2 : List Int} {q q2 : Nat}
theorem NxR.fin (hQ : LQ S B k w0 w2 g s r2 (ps s l) R lt2 q2) (h34 : ∃ x : Int, r2 34 = .int .i32 x) (hc : ¬ (hd l = 47 ∧ pk l 1 = 42)) (he : endF l = R) (ht : TokC r2 (nextF l).1) (hq : q2 ≤ ps s R) (hs : R <:+ lt2) {a : Act} (hf : NxF g a) :
    NxR S B k w0 g s l .ret a w2 :=
  ⟨hf, .inr ⟨rfl, hc, r2, lt2, q2, ⟨by rw [he]; exact hQ, by rw [he]; exact hq, by rw [he]; exact hs, h34⟩, ht⟩⟩
end
theorem cont0_eq {c : Int} (h : c ≠ 0) : cont0 c = cont c := by
  have e : (c == 0) = false := by simp only [beq_eq_false_iff_ne]; exact h
  unfold cont0 strt0 cont
  rw [e, Bool.or_false]
theorem hd_ne0 {s : ByteArray} {l : List Int} (h : Sfx s l) : hd l ≠ 0 := by
  cases l with
  | nil => simp
  | cons c t => have := h.all.head.1; simp only [hd_cons]; omega
set_option maxRecDepth 1000000 in
set_option maxHeartbeats 16000000 in
theorem nx_hashnamei {S : Nat → Prop} {B : Nat} {k : LK} {w0 w : World} {g : Nat} {s : ByteArray} {r : Nat → Value} {st : Nat} {l lt : List Int} {q : Nat} (h : NQ S B k w0 w g s r st l lt q) (hc : hd l = 35) (hcn : cont (pk l 1) = true) (hid : idnt (pk l 1) (pk l 2) (pk l 3) = true) (ho : (nameF l.tail).2.2 = false) (f : Nat → Value) :
    Code.wp Tryz.prog nxBody (NxR S B k w0 g s l) ⟨fr592 (.pointer (some ⟨g, 0, none⟩)) f, []⟩ w := by
  unfold fr592
  conv => arg 2; whnf
  have c36 := h.lq.la.c36
  have c37 := h.lq.la.c37
  have hps := ps_le s l
  have hsz := h.lq.la.size
  have zz : (st : Int) + ((ps s l : Int) - st) = (ps s l : Nat) := by omega
  have b2 : ((ps s l : Nat) : Int) ≤ 2147483647 := by omega
  go_upto_region 1 with (first | (go_at_call 24; refine (End_at _ _ (by omega) _).mono ?_; rintro e w1 ⟨rfl, hk1⟩; have hL := (h.lq.keepA hk1).la; have f36 := hL.frozen 36; have f37 := hL.frozen 37; have f38 := hL.frozen 38; have f39 := hL.frozen 39; have f40 := hL.frozen 40; have d36 := hL.c36; have d37 := hL.c37; have d38 := hL.c38; have d39 := hL.c39; have d40 := hL.c40; clear hL))
  have hQ := (h.lq.keepA hk1).start
  unfold wTok at hQ
  clear f36 f37 f38 f39 f40 d36 d37 d38 d39 d40 c36 c37 hk1 zz b2
  generalize ((((w1.setCell ⟨g, 36, none⟩ (.int .i32 (ps s l : Nat))).setCell ⟨g, 37, none⟩ (.int .i32 0)).setCell ⟨g, 38, none⟩ (.int .u16 0)).setCell ⟨g, 39, none⟩ (.int .u8 0)).setCell ⟨g, 40, none⟩ (.int .u8 0) = wt at hQ ⊢
  have c35 := hQ.la.c35
  have hcm : ¬ (hd l = 47 ∧ pk l 1 = 42) := by rw [hc]; exact fun e => absurd e.1 (by decide)
  have hz := hd_ne0 h.lq.la.sfx.tl
  have hn : nextF l = ({ kind := 28, id := idnt (pk l 1) (pk l 2) (pk l 3), text := (nameF l.tail).1 }, (nameF l.tail).2.1, (nameF l.tail).2.2) := by rw [nextF_hash hc, if_pos (.inl hcn)]
  have he : endF l = (nameF l.tail).2.1 := by unfold endF; rw [if_neg (by rw [hc]; decide), hn]
  have hsu := h.suf ((nameF_suf l.tail).trans (tail_suf l))
  have kid : idnt (hd l.tail) (pk l.tail 1) (pk l.tail 2) = true := by rw [← pk_one, pk_tail, pk_tail]; exact hid
  have kc : cont0 (hd l.tail) = true := by rw [cont0_eq hz, ← pk_one]; exact hcn
  rw [hc] at c35
  clear hc
  go_wp2_with (fail)
  refine (step_la hQ.la).mono ?_
  rintro e w2 ⟨rfl, hA⟩
  have hQ2 := hQ.stepS hA
  clear hA
  have d35 := hQ2.la.c35
  have d39 := hQ2.la.c39
  have f39 := hQ2.la.frozen 39
  go_wp2_with (first | (go_at_call 79; refine (IsNameContinue_calls _ _).mono ?_; rintro e w1 ⟨rfl, rfl⟩))
  have hQ3 := hQ2
  clear d35
  have hQ4 := hQ3.up39 (.int .u8 28)
  refine (wouldStartIdentifier_la hQ4.la).mono ?_
  rintro e w4 ⟨rfl, hK4⟩
  rw [kid]
  have hQ5 := hQ4.keepA hK4
  clear hQ4 hK4
  have d40 : w4.cell? ⟨g, 40, none⟩ = some (.int .u8 0) := hQ5.la.c40
  have f40 := hQ5.la.frozen 40
  go_wp2_with (fail)
  have hQ6 := hQ5.up40 (.int .u8 1)
  refine (consumeName_la hQ6.la ho).mono ?_
  rintro e w7 ⟨_, rfl, _, hA7⟩
  have hQ7 := hQ6.stepS hA7
  go_wp2_with (fail)
  exact NxR.fin hQ7 h.tok34 hcm he (by rw [hn]; exact ⟨rfl, rfl, 1, rfl, .inr (.inl rfl), by rw [hid]; exact ⟨fun _ => rfl, fun _ => rfl⟩⟩) hsu.1 hsu.2 ⟨rfl, rfl, rfl⟩
set_option maxRecDepth 1000000 in
set_option maxHeartbeats 16000000 in
theorem nx_hashnamen {S : Nat → Prop} {B : Nat} {k : LK} {w0 w : World} {g : Nat} {s : ByteArray} {r : Nat → Value} {st : Nat} {l lt : List Int} {q : Nat} (h : NQ S B k w0 w g s r st l lt q) (hc : hd l = 35) (hcn : cont (pk l 1) = true) (hid : idnt (pk l 1) (pk l 2) (pk l 3) = false) (ho : (nameF l.tail).2.2 = false) (f : Nat → Value) :
    Code.wp Tryz.prog nxBody (NxR S B k w0 g s l) ⟨fr592 (.pointer (some ⟨g, 0, none⟩)) f, []⟩ w := by
  unfold fr592
  conv => arg 2; whnf
  have c36 := h.lq.la.c36
  have c37 := h.lq.la.c37
  have hps := ps_le s l
  have hsz := h.lq.la.size
  have zz : (st : Int) + ((ps s l : Int) - st) = (ps s l : Nat) := by omega
  have b2 : ((ps s l : Nat) : Int) ≤ 2147483647 := by omega
  go_upto_region 1 with (first | (go_at_call 24; refine (End_at _ _ (by omega) _).mono ?_; rintro e w1 ⟨rfl, hk1⟩; have hL := (h.lq.keepA hk1).la; have f36 := hL.frozen 36; have f37 := hL.frozen 37; have f38 := hL.frozen 38; have f39 := hL.frozen 39; have f40 := hL.frozen 40; have d36 := hL.c36; have d37 := hL.c37; have d38 := hL.c38; have d39 := hL.c39; have d40 := hL.c40; clear hL))
  have hQ := (h.lq.keepA hk1).start
  unfold wTok at hQ
  clear f36 f37 f38 f39 f40 d36 d37 d38 d39 d40 c36 c37 hk1 zz b2
  generalize ((((w1.setCell ⟨g, 36, none⟩ (.int .i32 (ps s l : Nat))).setCell ⟨g, 37, none⟩ (.int .i32 0)).setCell ⟨g, 38, none⟩ (.int .u16 0)).setCell ⟨g, 39, none⟩ (.int .u8 0)).setCell ⟨g, 40, none⟩ (.int .u8 0) = wt at hQ ⊢
  have c35 := hQ.la.c35
  have hcm : ¬ (hd l = 47 ∧ pk l 1 = 42) := by rw [hc]; exact fun e => absurd e.1 (by decide)
  have hz := hd_ne0 h.lq.la.sfx.tl
  have hn : nextF l = ({ kind := 28, id := idnt (pk l 1) (pk l 2) (pk l 3), text := (nameF l.tail).1 }, (nameF l.tail).2.1, (nameF l.tail).2.2) := by rw [nextF_hash hc, if_pos (.inl hcn)]
  have he : endF l = (nameF l.tail).2.1 := by unfold endF; rw [if_neg (by rw [hc]; decide), hn]
  have hsu := h.suf ((nameF_suf l.tail).trans (tail_suf l))
  have kid : idnt (hd l.tail) (pk l.tail 1) (pk l.tail 2) = false := by rw [← pk_one, pk_tail, pk_tail]; exact hid
  have kc : cont0 (hd l.tail) = true := by rw [cont0_eq hz, ← pk_one]; exact hcn
  rw [hc] at c35
  clear hc
  go_wp2_with (fail)
  refine (step_la hQ.la).mono ?_
  rintro e w2 ⟨rfl, hA⟩
  have hQ2 := hQ.stepS hA
  clear hA
  have d35 := hQ2.la.c35
  have d39 := hQ2.la.c39
  have f39 := hQ2.la.frozen 39
  go_wp2_with (first | (go_at_call 79; refine (IsNameContinue_calls _ _).mono ?_; rintro e w1 ⟨rfl, rfl⟩))
  have hQ3 := hQ2
  clear d35
  have hQ4 := hQ3.up39 (.int .u8 28)
  refine (wouldStartIdentifier_la hQ4.la).mono ?_
  rintro e w4 ⟨rfl, hK4⟩
  rw [kid]
  have hQ5 := hQ4.keepA hK4
  clear hQ4 hK4
  go_wp2_with (fail)
  have hQ6 := hQ5
  refine (consumeName_la hQ6.la ho).mono ?_
  rintro e w7 ⟨_, rfl, _, hA7⟩
  have hQ7 := hQ6.stepS hA7
  go_wp2_with (fail)
  exact NxR.fin hQ7 h.tok34 hcm he (by rw [hn]; exact ⟨rfl, rfl, 0, rfl, .inl rfl, by rw [hid]; exact ⟨fun e => absurd e (by decide), fun e => Bool.noConfusion e⟩⟩) hsu.1 hsu.2 ⟨rfl, rfl, rfl⟩
set_option maxRecDepth 1000000 in
set_option maxHeartbeats 16000000 in
theorem nx_hashesci {S : Nat → Prop} {B : Nat} {k : LK} {w0 w : World} {g : Nat} {s : ByteArray} {r : Nat → Value} {st : Nat} {l lt : List Int} {q : Nat} (h : NQ S B k w0 w g s r st l lt q) (hc : hd l = 35) (hcn : cont (pk l 1) = false) (hes : escs (pk l 1) (pk l 2) = true) (hid : idnt (pk l 1) (pk l 2) (pk l 3) = true) (ho : (nameF l.tail).2.2 = false) (f : Nat → Value) :
    Code.wp Tryz.prog nxBody (NxR S B k w0 g s l) ⟨fr592 (.pointer (some ⟨g, 0, none⟩)) f, []⟩ w := by
  unfold fr592
  conv => arg 2; whnf
  have c36 := h.lq.la.c36
  have c37 := h.lq.la.c37
  have hps := ps_le s l
  have hsz := h.lq.la.size
  have zz : (st : Int) + ((ps s l : Int) - st) = (ps s l : Nat) := by omega
  have b2 : ((ps s l : Nat) : Int) ≤ 2147483647 := by omega
  go_upto_region 1 with (first | (go_at_call 24; refine (End_at _ _ (by omega) _).mono ?_; rintro e w1 ⟨rfl, hk1⟩; have hL := (h.lq.keepA hk1).la; have f36 := hL.frozen 36; have f37 := hL.frozen 37; have f38 := hL.frozen 38; have f39 := hL.frozen 39; have f40 := hL.frozen 40; have d36 := hL.c36; have d37 := hL.c37; have d38 := hL.c38; have d39 := hL.c39; have d40 := hL.c40; clear hL))
  have hQ := (h.lq.keepA hk1).start
  unfold wTok at hQ
  clear f36 f37 f38 f39 f40 d36 d37 d38 d39 d40 c36 c37 hk1 zz b2
  generalize ((((w1.setCell ⟨g, 36, none⟩ (.int .i32 (ps s l : Nat))).setCell ⟨g, 37, none⟩ (.int .i32 0)).setCell ⟨g, 38, none⟩ (.int .u16 0)).setCell ⟨g, 39, none⟩ (.int .u8 0)).setCell ⟨g, 40, none⟩ (.int .u8 0) = wt at hQ ⊢
  have c35 := hQ.la.c35
  have hcm : ¬ (hd l = 47 ∧ pk l 1 = 42) := by rw [hc]; exact fun e => absurd e.1 (by decide)
  have hz := hd_ne0 h.lq.la.sfx.tl
  have hn : nextF l = ({ kind := 28, id := idnt (pk l 1) (pk l 2) (pk l 3), text := (nameF l.tail).1 }, (nameF l.tail).2.1, (nameF l.tail).2.2) := by rw [nextF_hash hc, if_pos (.inr hes)]
  have he : endF l = (nameF l.tail).2.1 := by unfold endF; rw [if_neg (by rw [hc]; decide), hn]
  have hsu := h.suf ((nameF_suf l.tail).trans (tail_suf l))
  have kid : idnt (hd l.tail) (pk l.tail 1) (pk l.tail 2) = true := by rw [← pk_one, pk_tail, pk_tail]; exact hid
  have kc : cont0 (hd l.tail) = false := by rw [cont0_eq hz, ← pk_one]; exact hcn
  have ke : escs (hd l.tail) (pk l.tail 1) = true := by rw [← pk_one, pk_tail]; exact hes
  rw [hc] at c35
  clear hc
  go_wp2_with (fail)
  refine (step_la hQ.la).mono ?_
  rintro e w2 ⟨rfl, hA⟩
  have hQ2 := hQ.stepS hA
  clear hA
  have d35 := hQ2.la.c35
  go_wp2_with (first | (go_at_call 79; refine (IsNameContinue_calls _ _).mono ?_; rintro e w1 ⟨rfl, rfl⟩))
  refine (isValidEscape_la hQ2.la).mono ?_
  rintro e w1 ⟨rfl, hK1⟩
  rw [ke]
  have hQ3 := hQ2.keepA hK1
  clear hK1
  clear d35
  have d39 := hQ3.la.c39
  have f39 := hQ3.la.frozen 39
  go_wp2_with (fail)
  have hQ4 := hQ3.up39 (.int .u8 28)
  refine (wouldStartIdentifier_la hQ4.la).mono ?_
  rintro e w4 ⟨rfl, hK4⟩
  rw [kid]
  have hQ5 := hQ4.keepA hK4
  clear hQ4 hK4
  have d40 : w4.cell? ⟨g, 40, none⟩ = some (.int .u8 0) := hQ5.la.c40
  have f40 := hQ5.la.frozen 40
  go_wp2_with (fail)
  have hQ6 := hQ5.up40 (.int .u8 1)
  refine (consumeName_la hQ6.la ho).mono ?_
  rintro e w7 ⟨_, rfl, _, hA7⟩
  have hQ7 := hQ6.stepS hA7
  go_wp2_with (fail)
  exact NxR.fin hQ7 h.tok34 hcm he (by rw [hn]; exact ⟨rfl, rfl, 1, rfl, .inr (.inl rfl), by rw [hid]; exact ⟨fun _ => rfl, fun _ => rfl⟩⟩) hsu.1 hsu.2 ⟨rfl, rfl, rfl⟩
set_option maxRecDepth 1000000 in
set_option maxHeartbeats 16000000 in
theorem nx_hashescn {S : Nat → Prop} {B : Nat} {k : LK} {w0 w : World} {g : Nat} {s : ByteArray} {r : Nat → Value} {st : Nat} {l lt : List Int} {q : Nat} (h : NQ S B k w0 w g s r st l lt q) (hc : hd l = 35) (hcn : cont (pk l 1) = false) (hes : escs (pk l 1) (pk l 2) = true) (hid : idnt (pk l 1) (pk l 2) (pk l 3) = false) (ho : (nameF l.tail).2.2 = false) (f : Nat → Value) :
    Code.wp Tryz.prog nxBody (NxR S B k w0 g s l) ⟨fr592 (.pointer (some ⟨g, 0, none⟩)) f, []⟩ w := by
  unfold fr592
  conv => arg 2; whnf
  have c36 := h.lq.la.c36
  have c37 := h.lq.la.c37
  have hps := ps_le s l
  have hsz := h.lq.la.size
  have zz : (st : Int) + ((ps s l : Int) - st) = (ps s l : Nat) := by omega
  have b2 : ((ps s l : Nat) : Int) ≤ 2147483647 := by omega
  go_upto_region 1 with (first | (go_at_call 24; refine (End_at _ _ (by omega) _).mono ?_; rintro e w1 ⟨rfl, hk1⟩; have hL := (h.lq.keepA hk1).la; have f36 := hL.frozen 36; have f37 := hL.frozen 37; have f38 := hL.frozen 38; have f39 := hL.frozen 39; have f40 := hL.frozen 40; have d36 := hL.c36; have d37 := hL.c37; have d38 := hL.c38; have d39 := hL.c39; have d40 := hL.c40; clear hL))
  have hQ := (h.lq.keepA hk1).start
  unfold wTok at hQ
  clear f36 f37 f38 f39 f40 d36 d37 d38 d39 d40 c36 c37 hk1 zz b2
  generalize ((((w1.setCell ⟨g, 36, none⟩ (.int .i32 (ps s l : Nat))).setCell ⟨g, 37, none⟩ (.int .i32 0)).setCell ⟨g, 38, none⟩ (.int .u16 0)).setCell ⟨g, 39, none⟩ (.int .u8 0)).setCell ⟨g, 40, none⟩ (.int .u8 0) = wt at hQ ⊢
  have c35 := hQ.la.c35
  have hcm : ¬ (hd l = 47 ∧ pk l 1 = 42) := by rw [hc]; exact fun e => absurd e.1 (by decide)
  have hz := hd_ne0 h.lq.la.sfx.tl
  have hn : nextF l = ({ kind := 28, id := idnt (pk l 1) (pk l 2) (pk l 3), text := (nameF l.tail).1 }, (nameF l.tail).2.1, (nameF l.tail).2.2) := by rw [nextF_hash hc, if_pos (.inr hes)]
  have he : endF l = (nameF l.tail).2.1 := by unfold endF; rw [if_neg (by rw [hc]; decide), hn]
  have hsu := h.suf ((nameF_suf l.tail).trans (tail_suf l))
  have kid : idnt (hd l.tail) (pk l.tail 1) (pk l.tail 2) = false := by rw [← pk_one, pk_tail, pk_tail]; exact hid
  have kc : cont0 (hd l.tail) = false := by rw [cont0_eq hz, ← pk_one]; exact hcn
  have ke : escs (hd l.tail) (pk l.tail 1) = true := by rw [← pk_one, pk_tail]; exact hes
  rw [hc] at c35
  clear hc
  go_wp2_with (fail)
  refine (step_la hQ.la).mono ?_
  rintro e w2 ⟨rfl, hA⟩
  have hQ2 := hQ.stepS hA
  clear hA
  have d35 := hQ2.la.c35
  go_wp2_with (first | (go_at_call 79; refine (IsNameContinue_calls _ _).mono ?_; rintro e w1 ⟨rfl, rfl⟩))
  refine (isValidEscape_la hQ2.la).mono ?_
  rintro e w1 ⟨rfl, hK1⟩
  rw [ke]
  have hQ3 := hQ2.keepA hK1
  clear hK1
  clear d35
  have d39 := hQ3.la.c39
  have f39 := hQ3.la.frozen 39
  go_wp2_with (fail)
  have hQ4 := hQ3.up39 (.int .u8 28)
  refine (wouldStartIdentifier_la hQ4.la).mono ?_
  rintro e w4 ⟨rfl, hK4⟩
  rw [kid]
  have hQ5 := hQ4.keepA hK4
  clear hQ4 hK4
  go_wp2_with (fail)
  have hQ6 := hQ5
  refine (consumeName_la hQ6.la ho).mono ?_
  rintro e w7 ⟨_, rfl, _, hA7⟩
  have hQ7 := hQ6.stepS hA7
  go_wp2_with (fail)
  exact NxR.fin hQ7 h.tok34 hcm he (by rw [hn]; exact ⟨rfl, rfl, 0, rfl, .inl rfl, by rw [hid]; exact ⟨fun e => absurd e (by decide), fun e => Bool.noConfusion e⟩⟩) hsu.1 hsu.2 ⟨rfl, rfl, rfl⟩
set_option maxRecDepth 1000000 in
set_option maxHeartbeats 16000000 in
theorem nx_hash {S : Nat → Prop} {B : Nat} {k : LK} {w0 w : World} {g : Nat} {s : ByteArray} {r : Nat → Value} {st : Nat} {l lt : List Int} {q : Nat} (h : NQ S B k w0 w g s r st l lt q) (hc : hd l = 35) (hcn : cont (pk l 1) = false) (hes : escs (pk l 1) (pk l 2) = false) (f : Nat → Value) :
    Code.wp Tryz.prog nxBody (NxR S B k w0 g s l) ⟨fr592 (.pointer (some ⟨g, 0, none⟩)) f, []⟩ w := by
  unfold fr592
  conv => arg 2; whnf
  have c36 := h.lq.la.c36
  have c37 := h.lq.la.c37
  have hps := ps_le s l
  have hsz := h.lq.la.size
  have zz : (st : Int) + ((ps s l : Int) - st) = (ps s l : Nat) := by omega
  have b2 : ((ps s l : Nat) : Int) ≤ 2147483647 := by omega
  go_upto_region 1 with (first | (go_at_call 24; refine (End_at _ _ (by omega) _).mono ?_; rintro e w1 ⟨rfl, hk1⟩; have hL := (h.lq.keepA hk1).la; have f36 := hL.frozen 36; have f37 := hL.frozen 37; have f38 := hL.frozen 38; have f39 := hL.frozen 39; have f40 := hL.frozen 40; have d36 := hL.c36; have d37 := hL.c37; have d38 := hL.c38; have d39 := hL.c39; have d40 := hL.c40; clear hL))
  have hQ := (h.lq.keepA hk1).start
  unfold wTok at hQ
  clear f36 f37 f38 f39 f40 d36 d37 d38 d39 d40 c36 c37 hk1 zz b2
  generalize ((((w1.setCell ⟨g, 36, none⟩ (.int .i32 (ps s l : Nat))).setCell ⟨g, 37, none⟩ (.int .i32 0)).setCell ⟨g, 38, none⟩ (.int .u16 0)).setCell ⟨g, 39, none⟩ (.int .u8 0)).setCell ⟨g, 40, none⟩ (.int .u8 0) = wt at hQ ⊢
  have c35 := hQ.la.c35
  have hcm : ¬ (hd l = 47 ∧ pk l 1 = 42) := by rw [hc]; exact fun e => absurd e.1 (by decide)
  have hz := hd_ne0 h.lq.la.sfx.tl
  have hn : nextF l = ({ kind := 11 }, l.tail, false) := by rw [nextF_hash hc, if_neg (by rw [hcn, hes]; decide)]
  have he : endF l = l.tail := by unfold endF; rw [if_neg (by rw [hc]; decide), hn]
  have kc : cont0 (hd l.tail) = false := by rw [cont0_eq hz, ← pk_one]; exact hcn
  have ke : escs (hd l.tail) (pk l.tail 1) = false := by rw [← pk_one, pk_tail]; exact hes
  rw [hc] at c35
  clear hc
  go_wp2_with (fail)
  refine (step_la hQ.la).mono ?_
  rintro e w2 ⟨rfl, hA⟩
  have hQ2 := hQ.stepS hA
  clear hA
  have d35 := hQ2.la.c35
  go_wp2_with (first | (go_at_call 79; refine (IsNameContinue_calls _ _).mono ?_; rintro e w1 ⟨rfl, rfl⟩))
  refine (isValidEscape_la hQ2.la).mono ?_
  rintro e w3 ⟨rfl, hK1⟩
  rw [ke]
  have hQ3 := hQ2.keepA hK1
  clear hK1 d35
  have d39 := hQ3.la.c39
  have f39 := hQ3.la.frozen 39
  go_wp2_with (fail)
  have hsu := h.suf (tail_suf l)
  exact NxR.one hQ3 (tok0_38 r) (tok0_40 r) h.tok34 hcm he (by rw [hn]) (by rw [hn]) (by rw [hn]) hsu.1 hsu.2 ⟨rfl, rfl, rfl⟩
set_option maxRecDepth 1000000 in
set_option maxHeartbeats 16000000 in
theorem nx_atname {S : Nat → Prop} {B : Nat} {k : LK} {w0 w : World} {g : Nat} {s : ByteArray} {r : Nat → Value} {st : Nat} {l lt : List Int} {q : Nat} (h : NQ S B k w0 w g s r st l lt q) (hc : hd l = 64) (hid : idnt (pk l 1) (pk l 2) (pk l 3) = true) (ho : (nameF l.tail).2.2 = false) (f : Nat → Value) :
    Code.wp Tryz.prog nxBody (NxR S B k w0 g s l) ⟨fr592 (.pointer (some ⟨g, 0, none⟩)) f, []⟩ w := by
  unfold fr592
  conv => arg 2; whnf
  have c36 := h.lq.la.c36
  have c37 := h.lq.la.c37
  have hps := ps_le s l
  have hsz := h.lq.la.size
  have zz : (st : Int) + ((ps s l : Int) - st) = (ps s l : Nat) := by omega
  have b2 : ((ps s l : Nat) : Int) ≤ 2147483647 := by omega
  go_upto_region 1 with (first | (go_at_call 24; refine (End_at _ _ (by omega) _).mono ?_; rintro e w1 ⟨rfl, hk1⟩; have hL := (h.lq.keepA hk1).la; have f36 := hL.frozen 36; have f37 := hL.frozen 37; have f38 := hL.frozen 38; have f39 := hL.frozen 39; have f40 := hL.frozen 40; have d36 := hL.c36; have d37 := hL.c37; have d38 := hL.c38; have d39 := hL.c39; have d40 := hL.c40; clear hL))
  have hQ := (h.lq.keepA hk1).start
  unfold wTok at hQ
  clear f36 f37 f38 f39 f40 d36 d37 d38 d39 d40 c36 c37 hk1 zz b2
  generalize ((((w1.setCell ⟨g, 36, none⟩ (.int .i32 (ps s l : Nat))).setCell ⟨g, 37, none⟩ (.int .i32 0)).setCell ⟨g, 38, none⟩ (.int .u16 0)).setCell ⟨g, 39, none⟩ (.int .u8 0)).setCell ⟨g, 40, none⟩ (.int .u8 0) = wt at hQ ⊢
  have c35 := hQ.la.c35
  have hcm : ¬ (hd l = 47 ∧ pk l 1 = 42) := by rw [hc]; exact fun e => absurd e.1 (by decide)
  have hn : nextF l = ({ kind := 1, text := (nameF l.tail).1 }, (nameF l.tail).2.1, (nameF l.tail).2.2) := by rw [nextF_at hc, if_pos hid]
  have he : endF l = (nameF l.tail).2.1 := by unfold endF; rw [if_neg (by rw [hc]; decide), hn]
  have hsu := h.suf ((nameF_suf l.tail).trans (tail_suf l))
  have kid : idnt (hd l.tail) (pk l.tail 1) (pk l.tail 2) = true := by rw [← pk_one, pk_tail, pk_tail]; exact hid
  rw [hc] at c35
  clear hc
  go_wp2_with (fail)
  refine (step_la hQ.la).mono ?_
  rintro e w2 ⟨rfl, hA⟩
  have hQ2 := hQ.stepS hA
  clear hA
  go_wp2_with (fail)
  refine (wouldStartIdentifier_la hQ2.la).mono ?_
  rintro e w4 ⟨rfl, hK4⟩
  rw [kid]
  have hQ3 := hQ2.keepA hK4
  clear hQ2 hK4
  go_wp2_with (fail)
  refine (consumeName_la hQ3.la ho).mono ?_
  rintro e w7 ⟨_, rfl, _, hA7⟩
  have hQ7 := hQ3.stepS hA7
  have d39 := hQ7.la.c39
  have f39 := hQ7.la.frozen 39
  go_wp2_with (fail)
  exact NxR.one hQ7 (tok0_38 r) (tok0_40 r) h.tok34 hcm he (by rw [hn]) (by rw [hn]) (by rw [hn]) hsu.1 hsu.2 ⟨rfl, rfl, rfl⟩
set_option maxRecDepth 1000000 in
set_option maxHeartbeats 16000000 in
theorem nx_at {S : Nat → Prop} {B : Nat} {k : LK} {w0 w : World} {g : Nat} {s : ByteArray} {r : Nat → Value} {st : Nat} {l lt : List Int} {q : Nat} (h : NQ S B k w0 w g s r st l lt q) (hc : hd l = 64) (hid : idnt (pk l 1) (pk l 2) (pk l 3) = false) (f : Nat → Value) :
    Code.wp Tryz.prog nxBody (NxR S B k w0 g s l) ⟨fr592 (.pointer (some ⟨g, 0, none⟩)) f, []⟩ w := by
  unfold fr592
  conv => arg 2; whnf
  have c36 := h.lq.la.c36
  have c37 := h.lq.la.c37
  have hps := ps_le s l
  have hsz := h.lq.la.size
  have zz : (st : Int) + ((ps s l : Int) - st) = (ps s l : Nat) := by omega
  have b2 : ((ps s l : Nat) : Int) ≤ 2147483647 := by omega
  go_upto_region 1 with (first | (go_at_call 24; refine (End_at _ _ (by omega) _).mono ?_; rintro e w1 ⟨rfl, hk1⟩; have hL := (h.lq.keepA hk1).la; have f36 := hL.frozen 36; have f37 := hL.frozen 37; have f38 := hL.frozen 38; have f39 := hL.frozen 39; have f40 := hL.frozen 40; have d36 := hL.c36; have d37 := hL.c37; have d38 := hL.c38; have d39 := hL.c39; have d40 := hL.c40; clear hL))
  have hQ := (h.lq.keepA hk1).start
  unfold wTok at hQ
  clear f36 f37 f38 f39 f40 d36 d37 d38 d39 d40 c36 c37 hk1 zz b2
  generalize ((((w1.setCell ⟨g, 36, none⟩ (.int .i32 (ps s l : Nat))).setCell ⟨g, 37, none⟩ (.int .i32 0)).setCell ⟨g, 38, none⟩ (.int .u16 0)).setCell ⟨g, 39, none⟩ (.int .u8 0)).setCell ⟨g, 40, none⟩ (.int .u8 0) = wt at hQ ⊢
  have c35 := hQ.la.c35
  have hcm : ¬ (hd l = 47 ∧ pk l 1 = 42) := by rw [hc]; exact fun e => absurd e.1 (by decide)
  have hn : nextF l = ({ kind := 11 }, l.tail, false) := by rw [nextF_at hc, if_neg (by rw [hid]; decide)]
  have he : endF l = l.tail := by unfold endF; rw [if_neg (by rw [hc]; decide), hn]
  have kid : idnt (hd l.tail) (pk l.tail 1) (pk l.tail 2) = false := by rw [← pk_one, pk_tail, pk_tail]; exact hid
  rw [hc] at c35
  clear hc
  go_wp2_with (fail)
  refine (step_la hQ.la).mono ?_
  rintro e w2 ⟨rfl, hA⟩
  have hQ2 := hQ.stepS hA
  clear hA
  go_wp2_with (fail)
  refine (wouldStartIdentifier_la hQ2.la).mono ?_
  rintro e w4 ⟨rfl, hK4⟩
  rw [kid]
  have hQ3 := hQ2.keepA hK4
  clear hQ2 hK4
  have d39 := hQ3.la.c39
  have f39 := hQ3.la.frozen 39
  go_wp2_with (fail)
  have hsu := h.suf (tail_suf l)
  exact NxR.one hQ3 (tok0_38 r) (tok0_40 r) h.tok34 hcm he (by rw [hn]) (by rw [hn]) (by rw [hn]) hsu.1 hsu.2 ⟨rfl, rfl, rfl⟩
end Go.Proofs.YtedckphklebndaaGreatDoor
