/- The package's next at its end, at a slash, at numbers, at quotes. -/
import Derived.Test.YtedckphklebndaaGreatDoorQGR15
namespace Go.Proofs.YtedckphklebndaaGreatDoor
open Go Go.RowKit
def Bare (t : Tok) : Prop := t.unit = 0 ∧ t.id = false
theorem quotF_u (q : Int) (l : List Int) : ∀ out, Bare (quotF q out l).1 := by
  induction hn : l.length using Nat.strongRecOn generalizing l with
  | _ n ih =>
    intro out
    cases l with
    | nil => rw [quotF]; exact ⟨rfl, rfl⟩
    | cons c t =>
      have e3 := escF_le t
      have e4 := nlTake_le t
      simp only [List.length_cons] at hn
      rw [quotF]
      split
      · exact ⟨rfl, rfl⟩
      · split
        · exact ⟨rfl, rfl⟩
        · split
          · split
            · exact ih (nlTake t).length (by omega) _ rfl out
            · split
              · exact ⟨rfl, rfl⟩
              · exact ih (escF t).2.1.length (by omega) _ rfl (out ++ enc (escF t).1)
          · exact ih t.length (by omega) t rfl (out ++ enc c)
theorem urlF_u (l : List Int) : ∀ out, Bare (urlF out l).1 := by
  induction hn : l.length using Nat.strongRecOn generalizing l with
  | _ n ih =>
    intro out
    cases l with
    | nil => rw [urlF]; exact ⟨rfl, rfl⟩
    | cons c t =>
      have e3 := escF_le t
      simp only [List.length_cons] at hn
      rw [urlF]
      split
      · exact ⟨rfl, rfl⟩
      · split
        · split
          · exact ⟨rfl, rfl⟩
          · split
            · exact ⟨rfl, rfl⟩
            · exact ⟨rfl, rfl⟩
        · split
          · exact ⟨rfl, rfl⟩
          · split
            · exact ih (escF t).2.1.length (by omega) _ rfl (out ++ enc (escF t).1)
            · exact ih t.length (by omega) t rfl (out ++ enc c)
theorem namedF_u (l : List Int) : Bare (namedF l).1 := by
  unfold namedF
  split
  · split
    · exact urlF_u _ _
    · exact ⟨rfl, rfl⟩
  · exact ⟨rfl, rfl⟩
theorem numF_u (l : List Int) : (numF l).1.id = false ∧ ((numF l).1.kind ≠ 26 → (numF l).1.unit = 0) := by
  unfold numF
  split
  · exact ⟨rfl, fun e => absurd rfl e⟩
  · split
    · exact ⟨rfl, fun _ => rfl⟩
    · exact ⟨rfl, fun _ => rfl⟩
section
variable {S : Nat → Prop} {B : Nat} {k : LK} {w0 w w2 : World} {g : Nat} {s : ByteArray} {r r2 : Nat → Value} {st : Nat} {l R lt lt2 : List Int} {q q2 : Nat}
theorem NxR.num (h : NQ S B k w0 w g s r st l lt q) (hQ : LQ S B k w0 w2 g s (numR (tok0 r) l) (ps s l) (numF l).2.1 lt q) (hc : ¬ (hd l = 47 ∧ pk l 1 = 42)) (hn : nextF l = numF l) (hsp : isSp (hd l) = false) {a : Act} (hf : NxF g a) :
    NxR S B k w0 g s l .ret a (w2.setCell ⟨g, 39, none⟩ (.int .u8 (numF l).1.kind)) := by
  have he : endF l = (numF l).2.1 := by unfold endF; rw [hsp, if_neg (by decide), hn]
  have hsu := h.suf (numF_suf l)
  have hou : ∀ j, j ≠ 38 → numR (tok0 r) l j = tok0 r j := by
    intro j hj
    unfold numR
    split
    · exact up_other hj
    · rfl
  obtain ⟨x, hx⟩ := h.tok34
  refine ⟨hf, .inr ⟨rfl, hc, _, lt, q, ⟨by rw [he]; exact hQ.up39 _, by rw [he]; exact hsu.1, by rw [he]; exact hsu.2, x, by rw [up_other (by decide), hou 34 (by decide)]; exact hx⟩, ?_⟩⟩
  rw [hn]
  have hu := numF_u l
  refine ⟨by rw [up_same], ?_, 0, by rw [up_other (by decide), hou 40 (by decide)]; rfl, .inl rfl, ?_⟩
  · rw [up_other (by decide)]
    unfold numR
    split
    · rw [up_same]
    · rename_i e
      rw [hu.2 e]; rfl
  · rw [hu.1]
    exact ⟨fun e => absurd e (by decide), fun e => absurd e (by decide)⟩
end
set_option maxRecDepth 1000000 in
set_option maxHeartbeats 16000000 in
theorem nx_eof {S : Nat → Prop} {B : Nat} {k : LK} {w0 w : World} {g : Nat} {s : ByteArray} {r : Nat → Value} {st : Nat} {l lt : List Int} {q : Nat} (h : NQ S B k w0 w g s r st l lt q) (HC : Hid (l = [])) (f : Nat → Value) :
    Code.wp Tryz.prog nxBody (NxR S B k w0 g s l) ⟨fr592 (.pointer (some ⟨g, 0, none⟩)) f, []⟩ w := by
  unfold fr592
  conv => arg 2; whnf
  have c36 := h.lq.la.c36
  have c37 := h.lq.la.c37
  have hps := ps_le s l
  have hsz := h.lq.la.size
  have zz : (st : Int) + ((ps s l : Int) - st) = (ps s l : Nat) := by omega
  have b2 : ((ps s l : Nat) : Int) ≤ 2147483647 := by omega
  go_upto_region 1 with (first | (go_at_call 24; refine (End_at _ _ (by omega) _).mono ?_; rintro e w1 ⟨rfl, hk1⟩; have hL := (h.lq.keepA hk1).la; have f36 := hL.frozen 36; have f37 := hL.frozen 37; have f38 := hL.frozen 38; have f39 := hL.frozen 39; have f40 := hL.frozen 40; have d36 := hL.c36; have d37 := hL.c37; have d38 := hL.c38; have d39 := hL.c39; have d40 := hL.c40; clear hL))
  have hQ := (h.lq.keepA hk1).start
  unfold wTok at hQ
  clear f36 f37 f38 f39 f40 d36 d37 d38 d39 d40 c36 c37 hk1 zz b2
  generalize ((((w1.setCell ⟨g, 36, none⟩ (.int .i32 (ps s l : Nat))).setCell ⟨g, 37, none⟩ (.int .i32 0)).setCell ⟨g, 38, none⟩ (.int .u16 0)).setCell ⟨g, 39, none⟩ (.int .u8 0)).setCell ⟨g, 40, none⟩ (.int .u8 0) = wt at hQ ⊢
  have c35 := hQ.la.c35
  have hc := HC.out
  have hn : nextF l = ({ kind := 0 }, [], false) := by rw [hc]; unfold nextF; rw [if_pos rfl]
  have he : endF l = l := by unfold endF; rw [if_neg (by rw [hc]; decide), hn, hc]
  have hcm : ¬ (hd l = 47 ∧ pk l 1 = 42) := by rw [hc]; exact fun e => absurd e.1 (by decide)
  rw [hc, hd_nil] at c35
  clear hc
  have d39 := hQ.la.c39
  have f39 := hQ.la.frozen 39
  go_wp2_with (fail)
  have hsu := h.suf (List.suffix_refl l)
  exact NxR.one hQ (tok0_38 r) (tok0_40 r) h.tok34 hcm he (by rw [hn]) (by rw [hn]) (by rw [hn]) hsu.1 hsu.2 ⟨rfl, rfl, rfl⟩
set_option maxRecDepth 1000000 in
set_option maxHeartbeats 16000000 in
theorem nx_slash {S : Nat → Prop} {B : Nat} {k : LK} {w0 w : World} {g : Nat} {s : ByteArray} {r : Nat → Value} {st : Nat} {l lt : List Int} {q : Nat} (h : NQ S B k w0 w g s r st l lt q) (hc : hd l = 47) (h42 : pk l 1 ≠ 42) (h47 : pk l 1 ≠ 47) (f : Nat → Value) :
    Code.wp Tryz.prog nxBody (NxR S B k w0 g s l) ⟨fr592 (.pointer (some ⟨g, 0, none⟩)) f, []⟩ w := by
  unfold fr592
  conv => arg 2; whnf
  have c36 := h.lq.la.c36
  have c37 := h.lq.la.c37
  have hps := ps_le s l
  have hsz := h.lq.la.size
  have zz : (st : Int) + ((ps s l : Int) - st) = (ps s l : Nat) := by omega
  have b2 : ((ps s l : Nat) : Int) ≤ 2147483647 := by omega
  go_upto_region 1 with (first | (go_at_call 24; refine (End_at _ _ (by omega) _).mono ?_; rintro e w1 ⟨rfl, hk1⟩; have hL := (h.lq.keepA hk1).la; have f36 := hL.frozen 36; have f37 := hL.frozen 37; have f38 := hL.frozen 38; have f39 := hL.frozen 39; have f40 := hL.frozen 40; have d36 := hL.c36; have d37 := hL.c37; have d38 := hL.c38; have d39 := hL.c39; have d40 := hL.c40; clear hL))
  have hQ := (h.lq.keepA hk1).start
  unfold wTok at hQ
  clear f36 f37 f38 f39 f40 d36 d37 d38 d39 d40 c36 c37 hk1 zz b2
  generalize ((((w1.setCell ⟨g, 36, none⟩ (.int .i32 (ps s l : Nat))).setCell ⟨g, 37, none⟩ (.int .i32 0)).setCell ⟨g, 38, none⟩ (.int .u16 0)).setCell ⟨g, 39, none⟩ (.int .u8 0)).setCell ⟨g, 40, none⟩ (.int .u8 0) = wt at hQ ⊢
  have c35 := hQ.la.c35
  have hn : nextF l = ({ kind := 24 }, l.tail, false) := by rw [nextF_delim (by rw [hc]; rfl), hc]; rfl
  have he : endF l = l.tail := by unfold endF; rw [if_neg (by rw [hc]; decide), hn]
  have hcm : ¬ (hd l = 47 ∧ pk l 1 = 42) := fun e => h42 e.2
  rw [pk_one] at h42 h47
  have k1 : (hd l.tail == 42) = false := by simp [h42]
  have k2 : (hd l.tail == 47) = false := by simp [h47]
  rw [hc] at c35
  clear hc h42 h47
  go_wp2_with (fail)
  refine (step_la hQ.la).mono ?_
  rintro e w2 ⟨rfl, hA⟩
  have hQ2 := hQ.stepS hA
  clear hA
  have d35 := hQ2.la.c35
  have d39 := hQ2.la.c39
  have f39 := hQ2.la.frozen 39
  go_wp2_with (fail)
  have hsu := h.suf (tail_suf l)
  exact NxR.one hQ2 (tok0_38 r) (tok0_40 r) h.tok34 hcm he (by rw [hn]) (by rw [hn]) (by rw [hn]) hsu.1 hsu.2 ⟨rfl, rfl, rfl⟩
set_option maxRecDepth 1000000 in
set_option maxHeartbeats 16000000 in
theorem nx_num43 {S : Nat → Prop} {B : Nat} {k : LK} {w0 w : World} {g : Nat} {s : ByteArray} {r : Nat → Value} {st : Nat} {l lt : List Int} {q : Nat} (h : NQ S B k w0 w g s r st l lt q) (hc : hd l = 43) (hnum : cnts (hd l) (pk l 1) (pk l 2) = true) (ho : (numF l).2.2 = false) (f : Nat → Value) :
    Code.wp Tryz.prog nxBody (NxR S B k w0 g s l) ⟨fr592 (.pointer (some ⟨g, 0, none⟩)) f, []⟩ w := by
  unfold fr592
  conv => arg 2; whnf
  have c36 := h.lq.la.c36
  have c37 := h.lq.la.c37
  have hps := ps_le s l
  have hsz := h.lq.la.size
  have zz : (st : Int) + ((ps s l : Int) - st) = (ps s l : Nat) := by omega
  have b2 : ((ps s l : Nat) : Int) ≤ 2147483647 := by omega
  go_upto_region 1 with (first | (go_at_call 24; refine (End_at _ _ (by omega) _).mono ?_; rintro e w1 ⟨rfl, hk1⟩; have hL := (h.lq.keepA hk1).la; have f36 := hL.frozen 36; have f37 := hL.frozen 37; have f38 := hL.frozen 38; have f39 := hL.frozen 39; have f40 := hL.frozen 40; have d36 := hL.c36; have d37 := hL.c37; have d38 := hL.c38; have d39 := hL.c39; have d40 := hL.c40; clear hL))
  have hQ := (h.lq.keepA hk1).start
  unfold wTok at hQ
  clear f36 f37 f38 f39 f40 d36 d37 d38 d39 d40 c36 c37 hk1 zz b2
  generalize ((((w1.setCell ⟨g, 36, none⟩ (.int .i32 (ps s l : Nat))).setCell ⟨g, 37, none⟩ (.int .i32 0)).setCell ⟨g, 38, none⟩ (.int .u16 0)).setCell ⟨g, 39, none⟩ (.int .u8 0)).setCell ⟨g, 40, none⟩ (.int .u8 0) = wt at hQ ⊢
  have c35 := hQ.la.c35
  have hn : nextF l = numF l := nextF_num hnum
  have hsp : isSp (hd l) = false := by rw [hc]; rfl
  have hcm : ¬ (hd l = 47 ∧ pk l 1 = 42) := by rw [hc]; exact fun e => absurd e.1 (by decide)
  rw [hc] at c35
  clear hc
  go_wp2_with (fail)
  refine (wouldStartNumber_la hQ.la).mono ?_
  rintro e w1 ⟨rfl, rfl⟩
  rw [hnum]
  go_wp2_with (fail)
  refine (consumeNumeric_la hQ.la ho rfl).mono ?_
  rintro e w2 ⟨rfl, hA⟩
  have hQ2 := hQ.num hA
  clear hA
  have d39 := hQ2.la.c39
  have f39 := hQ2.la.frozen 39
  go_wp2_with (fail)
  exact NxR.num h hQ2 hcm hn hsp ⟨rfl, rfl, rfl⟩
set_option maxRecDepth 1000000 in
set_option maxHeartbeats 16000000 in
theorem nx_num46 {S : Nat → Prop} {B : Nat} {k : LK} {w0 w : World} {g : Nat} {s : ByteArray} {r : Nat → Value} {st : Nat} {l lt : List Int} {q : Nat} (h : NQ S B k w0 w g s r st l lt q) (hc : hd l = 46) (hnum : cnts (hd l) (pk l 1) (pk l 2) = true) (ho : (numF l).2.2 = false) (f : Nat → Value) :
    Code.wp Tryz.prog nxBody (NxR S B k w0 g s l) ⟨fr592 (.pointer (some ⟨g, 0, none⟩)) f, []⟩ w := by
  unfold fr592
  conv => arg 2; whnf
  have c36 := h.lq.la.c36
  have c37 := h.lq.la.c37
  have hps := ps_le s l
  have hsz := h.lq.la.size
  have zz : (st : Int) + ((ps s l : Int) - st) = (ps s l : Nat) := by omega
  have b2 : ((ps s l : Nat) : Int) ≤ 2147483647 := by omega
  go_upto_region 1 with (first | (go_at_call 24; refine (End_at _ _ (by omega) _).mono ?_; rintro e w1 ⟨rfl, hk1⟩; have hL := (h.lq.keepA hk1).la; have f36 := hL.frozen 36; have f37 := hL.frozen 37; have f38 := hL.frozen 38; have f39 := hL.frozen 39; have f40 := hL.frozen 40; have d36 := hL.c36; have d37 := hL.c37; have d38 := hL.c38; have d39 := hL.c39; have d40 := hL.c40; clear hL))
  have hQ := (h.lq.keepA hk1).start
  unfold wTok at hQ
  clear f36 f37 f38 f39 f40 d36 d37 d38 d39 d40 c36 c37 hk1 zz b2
  generalize ((((w1.setCell ⟨g, 36, none⟩ (.int .i32 (ps s l : Nat))).setCell ⟨g, 37, none⟩ (.int .i32 0)).setCell ⟨g, 38, none⟩ (.int .u16 0)).setCell ⟨g, 39, none⟩ (.int .u8 0)).setCell ⟨g, 40, none⟩ (.int .u8 0) = wt at hQ ⊢
  have c35 := hQ.la.c35
  have hn : nextF l = numF l := nextF_num hnum
  have hsp : isSp (hd l) = false := by rw [hc]; rfl
  have hcm : ¬ (hd l = 47 ∧ pk l 1 = 42) := by rw [hc]; exact fun e => absurd e.1 (by decide)
  rw [hc] at c35
  clear hc
  go_wp2_with (fail)
  refine (wouldStartNumber_la hQ.la).mono ?_
  rintro e w1 ⟨rfl, rfl⟩
  rw [hnum]
  go_wp2_with (fail)
  refine (consumeNumeric_la hQ.la ho rfl).mono ?_
  rintro e w2 ⟨rfl, hA⟩
  have hQ2 := hQ.num hA
  clear hA
  have d39 := hQ2.la.c39
  have f39 := hQ2.la.frozen 39
  go_wp2_with (fail)
  exact NxR.num h hQ2 hcm hn hsp ⟨rfl, rfl, rfl⟩
set_option maxRecDepth 1000000 in
set_option maxHeartbeats 16000000 in
theorem nx_num45 {S : Nat → Prop} {B : Nat} {k : LK} {w0 w : World} {g : Nat} {s : ByteArray} {r : Nat → Value} {st : Nat} {l lt : List Int} {q : Nat} (h : NQ S B k w0 w g s r st l lt q) (hc : hd l = 45) (hnum : cnts (hd l) (pk l 1) (pk l 2) = true) (ho : (numF l).2.2 = false) (f : Nat → Value) :
    Code.wp Tryz.prog nxBody (NxR S B k w0 g s l) ⟨fr592 (.pointer (some ⟨g, 0, none⟩)) f, []⟩ w := by
  unfold fr592
  conv => arg 2; whnf
  have c36 := h.lq.la.c36
  have c37 := h.lq.la.c37
  have hps := ps_le s l
  have hsz := h.lq.la.size
  have zz : (st : Int) + ((ps s l : Int) - st) = (ps s l : Nat) := by omega
  have b2 : ((ps s l : Nat) : Int) ≤ 2147483647 := by omega
  go_upto_region 1 with (first | (go_at_call 24; refine (End_at _ _ (by omega) _).mono ?_; rintro e w1 ⟨rfl, hk1⟩; have hL := (h.lq.keepA hk1).la; have f36 := hL.frozen 36; have f37 := hL.frozen 37; have f38 := hL.frozen 38; have f39 := hL.frozen 39; have f40 := hL.frozen 40; have d36 := hL.c36; have d37 := hL.c37; have d38 := hL.c38; have d39 := hL.c39; have d40 := hL.c40; clear hL))
  have hQ := (h.lq.keepA hk1).start
  unfold wTok at hQ
  clear f36 f37 f38 f39 f40 d36 d37 d38 d39 d40 c36 c37 hk1 zz b2
  generalize ((((w1.setCell ⟨g, 36, none⟩ (.int .i32 (ps s l : Nat))).setCell ⟨g, 37, none⟩ (.int .i32 0)).setCell ⟨g, 38, none⟩ (.int .u16 0)).setCell ⟨g, 39, none⟩ (.int .u8 0)).setCell ⟨g, 40, none⟩ (.int .u8 0) = wt at hQ ⊢
  have c35 := hQ.la.c35
  have hn : nextF l = numF l := nextF_num hnum
  have hsp : isSp (hd l) = false := by rw [hc]; rfl
  have hcm : ¬ (hd l = 47 ∧ pk l 1 = 42) := by rw [hc]; exact fun e => absurd e.1 (by decide)
  rw [hc] at c35
  clear hc
  go_wp2_with (fail)
  refine (wouldStartNumber_la hQ.la).mono ?_
  rintro e w1 ⟨rfl, rfl⟩
  rw [hnum]
  go_wp2_with (fail)
  refine (consumeNumeric_la hQ.la ho rfl).mono ?_
  rintro e w2 ⟨rfl, hA⟩
  have hQ2 := hQ.num hA
  clear hA
  have d39 := hQ2.la.c39
  have f39 := hQ2.la.frozen 39
  go_wp2_with (fail)
  exact NxR.num h hQ2 hcm hn hsp ⟨rfl, rfl, rfl⟩
set_option maxRecDepth 1000000 in
set_option maxHeartbeats 16000000 in
theorem nx_dig48 {S : Nat → Prop} {B : Nat} {k : LK} {w0 w : World} {g : Nat} {s : ByteArray} {r : Nat → Value} {st : Nat} {l lt : List Int} {q : Nat} (h : NQ S B k w0 w g s r st l lt q) (hc : hd l = 48) (ho : (numF l).2.2 = false) (f : Nat → Value) :
    Code.wp Tryz.prog nxBody (NxR S B k w0 g s l) ⟨fr592 (.pointer (some ⟨g, 0, none⟩)) f, []⟩ w := by
  unfold fr592
  conv => arg 2; whnf
  have c36 := h.lq.la.c36
  have c37 := h.lq.la.c37
  have hps := ps_le s l
  have hsz := h.lq.la.size
  have zz : (st : Int) + ((ps s l : Int) - st) = (ps s l : Nat) := by omega
  have b2 : ((ps s l : Nat) : Int) ≤ 2147483647 := by omega
  go_upto_region 1 with (first | (go_at_call 24; refine (End_at _ _ (by omega) _).mono ?_; rintro e w1 ⟨rfl, hk1⟩; have hL := (h.lq.keepA hk1).la; have f36 := hL.frozen 36; have f37 := hL.frozen 37; have f38 := hL.frozen 38; have f39 := hL.frozen 39; have f40 := hL.frozen 40; have d36 := hL.c36; have d37 := hL.c37; have d38 := hL.c38; have d39 := hL.c39; have d40 := hL.c40; clear hL))
  have hQ := (h.lq.keepA hk1).start
  unfold wTok at hQ
  clear f36 f37 f38 f39 f40 d36 d37 d38 d39 d40 c36 c37 hk1 zz b2
  generalize ((((w1.setCell ⟨g, 36, none⟩ (.int .i32 (ps s l : Nat))).setCell ⟨g, 37, none⟩ (.int .i32 0)).setCell ⟨g, 38, none⟩ (.int .u16 0)).setCell ⟨g, 39, none⟩ (.int .u8 0)).setCell ⟨g, 40, none⟩ (.int .u8 0) = wt at hQ ⊢
  have c35 := hQ.la.c35
  have hn : nextF l = numF l := nextF_num (by rw [hc]; unfold cnts; simp [isDg])
  have hsp : isSp (hd l) = false := by rw [hc]; rfl
  have hcm : ¬ (hd l = 47 ∧ pk l 1 = 42) := by rw [hc]; exact fun e => absurd e.1 (by decide)
  rw [hc] at c35
  clear hc
  go_wp2_with (fail)
  refine (consumeNumeric_la hQ.la ho rfl).mono ?_
  rintro e w2 ⟨rfl, hA⟩
  have hQ2 := hQ.num hA
  clear hA
  have d39 := hQ2.la.c39
  have f39 := hQ2.la.frozen 39
  go_wp2_with (fail)
  exact NxR.num h hQ2 hcm hn hsp ⟨rfl, rfl, rfl⟩
set_option maxRecDepth 1000000 in
set_option maxHeartbeats 16000000 in
theorem nx_dig49 {S : Nat → Prop} {B : Nat} {k : LK} {w0 w : World} {g : Nat} {s : ByteArray} {r : Nat → Value} {st : Nat} {l lt : List Int} {q : Nat} (h : NQ S B k w0 w g s r st l lt q) (hc : hd l = 49) (ho : (numF l).2.2 = false) (f : Nat → Value) :
    Code.wp Tryz.prog nxBody (NxR S B k w0 g s l) ⟨fr592 (.pointer (some ⟨g, 0, none⟩)) f, []⟩ w := by
  unfold fr592
  conv => arg 2; whnf
  have c36 := h.lq.la.c36
  have c37 := h.lq.la.c37
  have hps := ps_le s l
  have hsz := h.lq.la.size
  have zz : (st : Int) + ((ps s l : Int) - st) = (ps s l : Nat) := by omega
  have b2 : ((ps s l : Nat) : Int) ≤ 2147483647 := by omega
  go_upto_region 1 with (first | (go_at_call 24; refine (End_at _ _ (by omega) _).mono ?_; rintro e w1 ⟨rfl, hk1⟩; have hL := (h.lq.keepA hk1).la; have f36 := hL.frozen 36; have f37 := hL.frozen 37; have f38 := hL.frozen 38; have f39 := hL.frozen 39; have f40 := hL.frozen 40; have d36 := hL.c36; have d37 := hL.c37; have d38 := hL.c38; have d39 := hL.c39; have d40 := hL.c40; clear hL))
  have hQ := (h.lq.keepA hk1).start
  unfold wTok at hQ
  clear f36 f37 f38 f39 f40 d36 d37 d38 d39 d40 c36 c37 hk1 zz b2
  generalize ((((w1.setCell ⟨g, 36, none⟩ (.int .i32 (ps s l : Nat))).setCell ⟨g, 37, none⟩ (.int .i32 0)).setCell ⟨g, 38, none⟩ (.int .u16 0)).setCell ⟨g, 39, none⟩ (.int .u8 0)).setCell ⟨g, 40, none⟩ (.int .u8 0) = wt at hQ ⊢
  have c35 := hQ.la.c35
  have hn : nextF l = numF l := nextF_num (by rw [hc]; unfold cnts; simp [isDg])
  have hsp : isSp (hd l) = false := by rw [hc]; rfl
  have hcm : ¬ (hd l = 47 ∧ pk l 1 = 42) := by rw [hc]; exact fun e => absurd e.1 (by decide)
  rw [hc] at c35
  clear hc
  go_wp2_with (fail)
  refine (consumeNumeric_la hQ.la ho rfl).mono ?_
  rintro e w2 ⟨rfl, hA⟩
  have hQ2 := hQ.num hA
  clear hA
  have d39 := hQ2.la.c39
  have f39 := hQ2.la.frozen 39
  go_wp2_with (fail)
  exact NxR.num h hQ2 hcm hn hsp ⟨rfl, rfl, rfl⟩
set_option maxRecDepth 1000000 in
set_option maxHeartbeats 16000000 in
theorem nx_dig50 {S : Nat → Prop} {B : Nat} {k : LK} {w0 w : World} {g : Nat} {s : ByteArray} {r : Nat → Value} {st : Nat} {l lt : List Int} {q : Nat} (h : NQ S B k w0 w g s r st l lt q) (hc : hd l = 50) (ho : (numF l).2.2 = false) (f : Nat → Value) :
    Code.wp Tryz.prog nxBody (NxR S B k w0 g s l) ⟨fr592 (.pointer (some ⟨g, 0, none⟩)) f, []⟩ w := by
  unfold fr592
  conv => arg 2; whnf
  have c36 := h.lq.la.c36
  have c37 := h.lq.la.c37
  have hps := ps_le s l
  have hsz := h.lq.la.size
  have zz : (st : Int) + ((ps s l : Int) - st) = (ps s l : Nat) := by omega
  have b2 : ((ps s l : Nat) : Int) ≤ 2147483647 := by omega
  go_upto_region 1 with (first | (go_at_call 24; refine (End_at _ _ (by omega) _).mono ?_; rintro e w1 ⟨rfl, hk1⟩; have hL := (h.lq.keepA hk1).la; have f36 := hL.frozen 36; have f37 := hL.frozen 37; have f38 := hL.frozen 38; have f39 := hL.frozen 39; have f40 := hL.frozen 40; have d36 := hL.c36; have d37 := hL.c37; have d38 := hL.c38; have d39 := hL.c39; have d40 := hL.c40; clear hL))
  have hQ := (h.lq.keepA hk1).start
  unfold wTok at hQ
  clear f36 f37 f38 f39 f40 d36 d37 d38 d39 d40 c36 c37 hk1 zz b2
  generalize ((((w1.setCell ⟨g, 36, none⟩ (.int .i32 (ps s l : Nat))).setCell ⟨g, 37, none⟩ (.int .i32 0)).setCell ⟨g, 38, none⟩ (.int .u16 0)).setCell ⟨g, 39, none⟩ (.int .u8 0)).setCell ⟨g, 40, none⟩ (.int .u8 0) = wt at hQ ⊢
  have c35 := hQ.la.c35
  have hn : nextF l = numF l := nextF_num (by rw [hc]; unfold cnts; simp [isDg])
  have hsp : isSp (hd l) = false := by rw [hc]; rfl
  have hcm : ¬ (hd l = 47 ∧ pk l 1 = 42) := by rw [hc]; exact fun e => absurd e.1 (by decide)
  rw [hc] at c35
  clear hc
  go_wp2_with (fail)
  refine (consumeNumeric_la hQ.la ho rfl).mono ?_
  rintro e w2 ⟨rfl, hA⟩
  have hQ2 := hQ.num hA
  clear hA
  have d39 := hQ2.la.c39
  have f39 := hQ2.la.frozen 39
  go_wp2_with (fail)
  exact NxR.num h hQ2 hcm hn hsp ⟨rfl, rfl, rfl⟩
set_option maxRecDepth 1000000 in
set_option maxHeartbeats 16000000 in
theorem nx_dig51 {S : Nat → Prop} {B : Nat} {k : LK} {w0 w : World} {g : Nat} {s : ByteArray} {r : Nat → Value} {st : Nat} {l lt : List Int} {q : Nat} (h : NQ S B k w0 w g s r st l lt q) (hc : hd l = 51) (ho : (numF l).2.2 = false) (f : Nat → Value) :
    Code.wp Tryz.prog nxBody (NxR S B k w0 g s l) ⟨fr592 (.pointer (some ⟨g, 0, none⟩)) f, []⟩ w := by
  unfold fr592
  conv => arg 2; whnf
  have c36 := h.lq.la.c36
  have c37 := h.lq.la.c37
  have hps := ps_le s l
  have hsz := h.lq.la.size
  have zz : (st : Int) + ((ps s l : Int) - st) = (ps s l : Nat) := by omega
  have b2 : ((ps s l : Nat) : Int) ≤ 2147483647 := by omega
  go_upto_region 1 with (first | (go_at_call 24; refine (End_at _ _ (by omega) _).mono ?_; rintro e w1 ⟨rfl, hk1⟩; have hL := (h.lq.keepA hk1).la; have f36 := hL.frozen 36; have f37 := hL.frozen 37; have f38 := hL.frozen 38; have f39 := hL.frozen 39; have f40 := hL.frozen 40; have d36 := hL.c36; have d37 := hL.c37; have d38 := hL.c38; have d39 := hL.c39; have d40 := hL.c40; clear hL))
  have hQ := (h.lq.keepA hk1).start
  unfold wTok at hQ
  clear f36 f37 f38 f39 f40 d36 d37 d38 d39 d40 c36 c37 hk1 zz b2
  generalize ((((w1.setCell ⟨g, 36, none⟩ (.int .i32 (ps s l : Nat))).setCell ⟨g, 37, none⟩ (.int .i32 0)).setCell ⟨g, 38, none⟩ (.int .u16 0)).setCell ⟨g, 39, none⟩ (.int .u8 0)).setCell ⟨g, 40, none⟩ (.int .u8 0) = wt at hQ ⊢
  have c35 := hQ.la.c35
  have hn : nextF l = numF l := nextF_num (by rw [hc]; unfold cnts; simp [isDg])
  have hsp : isSp (hd l) = false := by rw [hc]; rfl
  have hcm : ¬ (hd l = 47 ∧ pk l 1 = 42) := by rw [hc]; exact fun e => absurd e.1 (by decide)
  rw [hc] at c35
  clear hc
  go_wp2_with (fail)
  refine (consumeNumeric_la hQ.la ho rfl).mono ?_
  rintro e w2 ⟨rfl, hA⟩
  have hQ2 := hQ.num hA
  clear hA
  have d39 := hQ2.la.c39
  have f39 := hQ2.la.frozen 39
  go_wp2_with (fail)
  exact NxR.num h hQ2 hcm hn hsp ⟨rfl, rfl, rfl⟩
set_option maxRecDepth 1000000 in
set_option maxHeartbeats 16000000 in
theorem nx_dig52 {S : Nat → Prop} {B : Nat} {k : LK} {w0 w : World} {g : Nat} {s : ByteArray} {r : Nat → Value} {st : Nat} {l lt : List Int} {q : Nat} (h : NQ S B k w0 w g s r st l lt q) (hc : hd l = 52) (ho : (numF l).2.2 = false) (f : Nat → Value) :
    Code.wp Tryz.prog nxBody (NxR S B k w0 g s l) ⟨fr592 (.pointer (some ⟨g, 0, none⟩)) f, []⟩ w := by
  unfold fr592
  conv => arg 2; whnf
  have c36 := h.lq.la.c36
  have c37 := h.lq.la.c37
  have hps := ps_le s l
  have hsz := h.lq.la.size
  have zz : (st : Int) + ((ps s l : Int) - st) = (ps s l : Nat) := by omega
  have b2 : ((ps s l : Nat) : Int) ≤ 2147483647 := by omega
  go_upto_region 1 with (first | (go_at_call 24; refine (End_at _ _ (by omega) _).mono ?_; rintro e w1 ⟨rfl, hk1⟩; have hL := (h.lq.keepA hk1).la; have f36 := hL.frozen 36; have f37 := hL.frozen 37; have f38 := hL.frozen 38; have f39 := hL.frozen 39; have f40 := hL.frozen 40; have d36 := hL.c36; have d37 := hL.c37; have d38 := hL.c38; have d39 := hL.c39; have d40 := hL.c40; clear hL))
  have hQ := (h.lq.keepA hk1).start
  unfold wTok at hQ
  clear f36 f37 f38 f39 f40 d36 d37 d38 d39 d40 c36 c37 hk1 zz b2
  generalize ((((w1.setCell ⟨g, 36, none⟩ (.int .i32 (ps s l : Nat))).setCell ⟨g, 37, none⟩ (.int .i32 0)).setCell ⟨g, 38, none⟩ (.int .u16 0)).setCell ⟨g, 39, none⟩ (.int .u8 0)).setCell ⟨g, 40, none⟩ (.int .u8 0) = wt at hQ ⊢
  have c35 := hQ.la.c35
  have hn : nextF l = numF l := nextF_num (by rw [hc]; unfold cnts; simp [isDg])
  have hsp : isSp (hd l) = false := by rw [hc]; rfl
  have hcm : ¬ (hd l = 47 ∧ pk l 1 = 42) := by rw [hc]; exact fun e => absurd e.1 (by decide)
  rw [hc] at c35
  clear hc
  go_wp2_with (fail)
  refine (consumeNumeric_la hQ.la ho rfl).mono ?_
  rintro e w2 ⟨rfl, hA⟩
  have hQ2 := hQ.num hA
  clear hA
  have d39 := hQ2.la.c39
  have f39 := hQ2.la.frozen 39
  go_wp2_with (fail)
  exact NxR.num h hQ2 hcm hn hsp ⟨rfl, rfl, rfl⟩
set_option maxRecDepth 1000000 in
set_option maxHeartbeats 16000000 in
theorem nx_dig53 {S : Nat → Prop} {B : Nat} {k : LK} {w0 w : World} {g : Nat} {s : ByteArray} {r : Nat → Value} {st : Nat} {l lt : List Int} {q : Nat} (h : NQ S B k w0 w g s r st l lt q) (hc : hd l = 53) (ho : (numF l).2.2 = false) (f : Nat → Value) :
    Code.wp Tryz.prog nxBody (NxR S B k w0 g s l) ⟨fr592 (.pointer (some ⟨g, 0, none⟩)) f, []⟩ w := by
  unfold fr592
  conv => arg 2; whnf
  have c36 := h.lq.la.c36
  have c37 := h.lq.la.c37
  have hps := ps_le s l
  have hsz := h.lq.la.size
  have zz : (st : Int) + ((ps s l : Int) - st) = (ps s l : Nat) := by omega
  have b2 : ((ps s l : Nat) : Int) ≤ 2147483647 := by omega
  go_upto_region 1 with (first | (go_at_call 24; refine (End_at _ _ (by omega) _).mono ?_; rintro e w1 ⟨rfl, hk1⟩; have hL := (h.lq.keepA hk1).la; have f36 := hL.frozen 36; have f37 := hL.frozen 37; have f38 := hL.frozen 38; have f39 := hL.frozen 39; have f40 := hL.frozen 40; have d36 := hL.c36; have d37 := hL.c37; have d38 := hL.c38; have d39 := hL.c39; have d40 := hL.c40; clear hL))
  have hQ := (h.lq.keepA hk1).start
  unfold wTok at hQ
  clear f36 f37 f38 f39 f40 d36 d37 d38 d39 d40 c36 c37 hk1 zz b2
  generalize ((((w1.setCell ⟨g, 36, none⟩ (.int .i32 (ps s l : Nat))).setCell ⟨g, 37, none⟩ (.int .i32 0)).setCell ⟨g, 38, none⟩ (.int .u16 0)).setCell ⟨g, 39, none⟩ (.int .u8 0)).setCell ⟨g, 40, none⟩ (.int .u8 0) = wt at hQ ⊢
  have c35 := hQ.la.c35
  have hn : nextF l = numF l := nextF_num (by rw [hc]; unfold cnts; simp [isDg])
  have hsp : isSp (hd l) = false := by rw [hc]; rfl
  have hcm : ¬ (hd l = 47 ∧ pk l 1 = 42) := by rw [hc]; exact fun e => absurd e.1 (by decide)
  rw [hc] at c35
  clear hc
  go_wp2_with (fail)
  refine (consumeNumeric_la hQ.la ho rfl).mono ?_
  rintro e w2 ⟨rfl, hA⟩
  have hQ2 := hQ.num hA
  clear hA
  have d39 := hQ2.la.c39
  have f39 := hQ2.la.frozen 39
  go_wp2_with (fail)
  exact NxR.num h hQ2 hcm hn hsp ⟨rfl, rfl, rfl⟩
set_option maxRecDepth 1000000 in
set_option maxHeartbeats 16000000 in
theorem nx_dig54 {S : Nat → Prop} {B : Nat} {k : LK} {w0 w : World} {g : Nat} {s : ByteArray} {r : Nat → Value} {st : Nat} {l lt : List Int} {q : Nat} (h : NQ S B k w0 w g s r st l lt q) (hc : hd l = 54) (ho : (numF l).2.2 = false) (f : Nat → Value) :
    Code.wp Tryz.prog nxBody (NxR S B k w0 g s l) ⟨fr592 (.pointer (some ⟨g, 0, none⟩)) f, []⟩ w := by
  unfold fr592
  conv => arg 2; whnf
  have c36 := h.lq.la.c36
  have c37 := h.lq.la.c37
  have hps := ps_le s l
  have hsz := h.lq.la.size
  have zz : (st : Int) + ((ps s l : Int) - st) = (ps s l : Nat) := by omega
  have b2 : ((ps s l : Nat) : Int) ≤ 2147483647 := by omega
  go_upto_region 1 with (first | (go_at_call 24; refine (End_at _ _ (by omega) _).mono ?_; rintro e w1 ⟨rfl, hk1⟩; have hL := (h.lq.keepA hk1).la; have f36 := hL.frozen 36; have f37 := hL.frozen 37; have f38 := hL.frozen 38; have f39 := hL.frozen 39; have f40 := hL.frozen 40; have d36 := hL.c36; have d37 := hL.c37; have d38 := hL.c38; have d39 := hL.c39; have d40 := hL.c40; clear hL))
  have hQ := (h.lq.keepA hk1).start
  unfold wTok at hQ
  clear f36 f37 f38 f39 f40 d36 d37 d38 d39 d40 c36 c37 hk1 zz b2
  generalize ((((w1.setCell ⟨g, 36, none⟩ (.int .i32 (ps s l : Nat))).setCell ⟨g, 37, none⟩ (.int .i32 0)).setCell ⟨g, 38, none⟩ (.int .u16 0)).setCell ⟨g, 39, none⟩ (.int .u8 0)).setCell ⟨g, 40, none⟩ (.int .u8 0) = wt at hQ ⊢
  have c35 := hQ.la.c35
  have hn : nextF l = numF l := nextF_num (by rw [hc]; unfold cnts; simp [isDg])
  have hsp : isSp (hd l) = false := by rw [hc]; rfl
  have hcm : ¬ (hd l = 47 ∧ pk l 1 = 42) := by rw [hc]; exact fun e => absurd e.1 (by decide)
  rw [hc] at c35
  clear hc
  go_wp2_with (fail)
  refine (consumeNumeric_la hQ.la ho rfl).mono ?_
  rintro e w2 ⟨rfl, hA⟩
  have hQ2 := hQ.num hA
  clear hA
  have d39 := hQ2.la.c39
  have f39 := hQ2.la.frozen 39
  go_wp2_with (fail)
  exact NxR.num h hQ2 hcm hn hsp ⟨rfl, rfl, rfl⟩
set_option maxRecDepth 1000000 in
set_option maxHeartbeats 16000000 in
theorem nx_dig55 {S : Nat → Prop} {B : Nat} {k : LK} {w0 w : World} {g : Nat} {s : ByteArray} {r : Nat → Value} {st : Nat} {l lt : List Int} {q : Nat} (h : NQ S B k w0 w g s r st l lt q) (hc : hd l = 55) (ho : (numF l).2.2 = false) (f : Nat → Value) :
    Code.wp Tryz.prog nxBody (NxR S B k w0 g s l) ⟨fr592 (.pointer (some ⟨g, 0, none⟩)) f, []⟩ w := by
  unfold fr592
  conv => arg 2; whnf
  have c36 := h.lq.la.c36
  have c37 := h.lq.la.c37
  have hps := ps_le s l
  have hsz := h.lq.la.size
  have zz : (st : Int) + ((ps s l : Int) - st) = (ps s l : Nat) := by omega
  have b2 : ((ps s l : Nat) : Int) ≤ 2147483647 := by omega
  go_upto_region 1 with (first | (go_at_call 24; refine (End_at _ _ (by omega) _).mono ?_; rintro e w1 ⟨rfl, hk1⟩; have hL := (h.lq.keepA hk1).la; have f36 := hL.frozen 36; have f37 := hL.frozen 37; have f38 := hL.frozen 38; have f39 := hL.frozen 39; have f40 := hL.frozen 40; have d36 := hL.c36; have d37 := hL.c37; have d38 := hL.c38; have d39 := hL.c39; have d40 := hL.c40; clear hL))
  have hQ := (h.lq.keepA hk1).start
  unfold wTok at hQ
  clear f36 f37 f38 f39 f40 d36 d37 d38 d39 d40 c36 c37 hk1 zz b2
  generalize ((((w1.setCell ⟨g, 36, none⟩ (.int .i32 (ps s l : Nat))).setCell ⟨g, 37, none⟩ (.int .i32 0)).setCell ⟨g, 38, none⟩ (.int .u16 0)).setCell ⟨g, 39, none⟩ (.int .u8 0)).setCell ⟨g, 40, none⟩ (.int .u8 0) = wt at hQ ⊢
  have c35 := hQ.la.c35
  have hn : nextF l = numF l := nextF_num (by rw [hc]; unfold cnts; simp [isDg])
  have hsp : isSp (hd l) = false := by rw [hc]; rfl
  have hcm : ¬ (hd l = 47 ∧ pk l 1 = 42) := by rw [hc]; exact fun e => absurd e.1 (by decide)
  rw [hc] at c35
  clear hc
  go_wp2_with (fail)
  refine (consumeNumeric_la hQ.la ho rfl).mono ?_
  rintro e w2 ⟨rfl, hA⟩
  have hQ2 := hQ.num hA
  clear hA
  have d39 := hQ2.la.c39
  have f39 := hQ2.la.frozen 39
  go_wp2_with (fail)
  exact NxR.num h hQ2 hcm hn hsp ⟨rfl, rfl, rfl⟩
set_option maxRecDepth 1000000 in
set_option maxHeartbeats 16000000 in
theorem nx_dig56 {S : Nat → Prop} {B : Nat} {k : LK} {w0 w : World} {g : Nat} {s : ByteArray} {r : Nat → Value} {st : Nat} {l lt : List Int} {q : Nat} (h : NQ S B k w0 w g s r st l lt q) (hc : hd l = 56) (ho : (numF l).2.2 = false) (f : Nat → Value) :
    Code.wp Tryz.prog nxBody (NxR S B k w0 g s l) ⟨fr592 (.pointer (some ⟨g, 0, none⟩)) f, []⟩ w := by
  unfold fr592
  conv => arg 2; whnf
  have c36 := h.lq.la.c36
  have c37 := h.lq.la.c37
  have hps := ps_le s l
  have hsz := h.lq.la.size
  have zz : (st : Int) + ((ps s l : Int) - st) = (ps s l : Nat) := by omega
  have b2 : ((ps s l : Nat) : Int) ≤ 2147483647 := by omega
  go_upto_region 1 with (first | (go_at_call 24; refine (End_at _ _ (by omega) _).mono ?_; rintro e w1 ⟨rfl, hk1⟩; have hL := (h.lq.keepA hk1).la; have f36 := hL.frozen 36; have f37 := hL.frozen 37; have f38 := hL.frozen 38; have f39 := hL.frozen 39; have f40 := hL.frozen 40; have d36 := hL.c36; have d37 := hL.c37; have d38 := hL.c38; have d39 := hL.c39; have d40 := hL.c40; clear hL))
  have hQ := (h.lq.keepA hk1).start
  unfold wTok at hQ
  clear f36 f37 f38 f39 f40 d36 d37 d38 d39 d40 c36 c37 hk1 zz b2
  generalize ((((w1.setCell ⟨g, 36, none⟩ (.int .i32 (ps s l : Nat))).setCell ⟨g, 37, none⟩ (.int .i32 0)).setCell ⟨g, 38, none⟩ (.int .u16 0)).setCell ⟨g, 39, none⟩ (.int .u8 0)).setCell ⟨g, 40, none⟩ (.int .u8 0) = wt at hQ ⊢
  have c35 := hQ.la.c35
  have hn : nextF l = numF l := nextF_num (by rw [hc]; unfold cnts; simp [isDg])
  have hsp : isSp (hd l) = false := by rw [hc]; rfl
  have hcm : ¬ (hd l = 47 ∧ pk l 1 = 42) := by rw [hc]; exact fun e => absurd e.1 (by decide)
  rw [hc] at c35
  clear hc
  go_wp2_with (fail)
  refine (consumeNumeric_la hQ.la ho rfl).mono ?_
  rintro e w2 ⟨rfl, hA⟩
  have hQ2 := hQ.num hA
  clear hA
  have d39 := hQ2.la.c39
  have f39 := hQ2.la.frozen 39
  go_wp2_with (fail)
  exact NxR.num h hQ2 hcm hn hsp ⟨rfl, rfl, rfl⟩
set_option maxRecDepth 1000000 in
set_option maxHeartbeats 16000000 in
theorem nx_dig57 {S : Nat → Prop} {B : Nat} {k : LK} {w0 w : World} {g : Nat} {s : ByteArray} {r : Nat → Value} {st : Nat} {l lt : List Int} {q : Nat} (h : NQ S B k w0 w g s r st l lt q) (hc : hd l = 57) (ho : (numF l).2.2 = false) (f : Nat → Value) :
    Code.wp Tryz.prog nxBody (NxR S B k w0 g s l) ⟨fr592 (.pointer (some ⟨g, 0, none⟩)) f, []⟩ w := by
  unfold fr592
  conv => arg 2; whnf
  have c36 := h.lq.la.c36
  have c37 := h.lq.la.c37
  have hps := ps_le s l
  have hsz := h.lq.la.size
  have zz : (st : Int) + ((ps s l : Int) - st) = (ps s l : Nat) := by omega
  have b2 : ((ps s l : Nat) : Int) ≤ 2147483647 := by omega
  go_upto_region 1 with (first | (go_at_call 24; refine (End_at _ _ (by omega) _).mono ?_; rintro e w1 ⟨rfl, hk1⟩; have hL := (h.lq.keepA hk1).la; have f36 := hL.frozen 36; have f37 := hL.frozen 37; have f38 := hL.frozen 38; have f39 := hL.frozen 39; have f40 := hL.frozen 40; have d36 := hL.c36; have d37 := hL.c37; have d38 := hL.c38; have d39 := hL.c39; have d40 := hL.c40; clear hL))
  have hQ := (h.lq.keepA hk1).start
  unfold wTok at hQ
  clear f36 f37 f38 f39 f40 d36 d37 d38 d39 d40 c36 c37 hk1 zz b2
  generalize ((((w1.setCell ⟨g, 36, none⟩ (.int .i32 (ps s l : Nat))).setCell ⟨g, 37, none⟩ (.int .i32 0)).setCell ⟨g, 38, none⟩ (.int .u16 0)).setCell ⟨g, 39, none⟩ (.int .u8 0)).setCell ⟨g, 40, none⟩ (.int .u8 0) = wt at hQ ⊢
  have c35 := hQ.la.c35
  have hn : nextF l = numF l := nextF_num (by rw [hc]; unfold cnts; simp [isDg])
  have hsp : isSp (hd l) = false := by rw [hc]; rfl
  have hcm : ¬ (hd l = 47 ∧ pk l 1 = 42) := by rw [hc]; exact fun e => absurd e.1 (by decide)
  rw [hc] at c35
  clear hc
  go_wp2_with (fail)
  refine (consumeNumeric_la hQ.la ho rfl).mono ?_
  rintro e w2 ⟨rfl, hA⟩
  have hQ2 := hQ.num hA
  clear hA
  have d39 := hQ2.la.c39
  have f39 := hQ2.la.frozen 39
  go_wp2_with (fail)
  exact NxR.num h hQ2 hcm hn hsp ⟨rfl, rfl, rfl⟩
set_option maxRecDepth 1000000 in
set_option maxHeartbeats 16000000 in
theorem nx_sign43 {S : Nat → Prop} {B : Nat} {k : LK} {w0 w : World} {g : Nat} {s : ByteArray} {r : Nat → Value} {st : Nat} {l lt : List Int} {q : Nat} (h : NQ S B k w0 w g s r st l lt q) (hc : hd l = 43) (hnum : cnts (hd l) (pk l 1) (pk l 2) = false) (f : Nat → Value) :
    Code.wp Tryz.prog nxBody (NxR S B k w0 g s l) ⟨fr592 (.pointer (some ⟨g, 0, none⟩)) f, []⟩ w := by
  unfold fr592
  conv => arg 2; whnf
  have c36 := h.lq.la.c36
  have c37 := h.lq.la.c37
  have hps := ps_le s l
  have hsz := h.lq.la.size
  have zz : (st : Int) + ((ps s l : Int) - st) = (ps s l : Nat) := by omega
  have b2 : ((ps s l : Nat) : Int) ≤ 2147483647 := by omega
  go_upto_region 1 with (first | (go_at_call 24; refine (End_at _ _ (by omega) _).mono ?_; rintro e w1 ⟨rfl, hk1⟩; have hL := (h.lq.keepA hk1).la; have f36 := hL.frozen 36; have f37 := hL.frozen 37; have f38 := hL.frozen 38; have f39 := hL.frozen 39; have f40 := hL.frozen 40; have d36 := hL.c36; have d37 := hL.c37; have d38 := hL.c38; have d39 := hL.c39; have d40 := hL.c40; clear hL))
  have hQ := (h.lq.keepA hk1).start
  unfold wTok at hQ
  clear f36 f37 f38 f39 f40 d36 d37 d38 d39 d40 c36 c37 hk1 zz b2
  generalize ((((w1.setCell ⟨g, 36, none⟩ (.int .i32 (ps s l : Nat))).setCell ⟨g, 37, none⟩ (.int .i32 0)).setCell ⟨g, 38, none⟩ (.int .u16 0)).setCell ⟨g, 39, none⟩ (.int .u8 0)).setCell ⟨g, 40, none⟩ (.int .u8 0) = wt at hQ ⊢
  have c35 := hQ.la.c35
  have hn : nextF l = ({ kind := 23 }, l.tail, false) := by rw [nextF_plus (by rw [hc]; decide) hnum, hc]; rfl
  have he : endF l = l.tail := by unfold endF; rw [if_neg (by rw [hc]; decide), hn]
  have hcm : ¬ (hd l = 47 ∧ pk l 1 = 42) := by rw [hc]; exact fun e => absurd e.1 (by decide)
  rw [hc] at c35
  clear hc
  go_wp2_with (fail)
  refine (wouldStartNumber_la hQ.la).mono ?_
  rintro e w1 ⟨rfl, rfl⟩
  rw [hnum]
  go_wp2_with (fail)
  refine (step_la hQ.la).mono ?_
  rintro e w2 ⟨rfl, hA⟩
  have hQ2 := hQ.stepS hA
  clear hA
  have d39 := hQ2.la.c39
  have f39 := hQ2.la.frozen 39
  go_wp2_with (fail)
  have hsu := h.suf (tail_suf l)
  exact NxR.one hQ2 (tok0_38 r) (tok0_40 r) h.tok34 hcm he (by rw [hn]) (by rw [hn]) (by rw [hn]) hsu.1 hsu.2 ⟨rfl, rfl, rfl⟩
set_option maxRecDepth 1000000 in
set_option maxHeartbeats 16000000 in
theorem nx_sign46 {S : Nat → Prop} {B : Nat} {k : LK} {w0 w : World} {g : Nat} {s : ByteArray} {r : Nat → Value} {st : Nat} {l lt : List Int} {q : Nat} (h : NQ S B k w0 w g s r st l lt q) (hc : hd l = 46) (hnum : cnts (hd l) (pk l 1) (pk l 2) = false) (f : Nat → Value) :
    Code.wp Tryz.prog nxBody (NxR S B k w0 g s l) ⟨fr592 (.pointer (some ⟨g, 0, none⟩)) f, []⟩ w := by
  unfold fr592
  conv => arg 2; whnf
  have c36 := h.lq.la.c36
  have c37 := h.lq.la.c37
  have hps := ps_le s l
  have hsz := h.lq.la.size
  have zz : (st : Int) + ((ps s l : Int) - st) = (ps s l : Nat) := by omega
  have b2 : ((ps s l : Nat) : Int) ≤ 2147483647 := by omega
  go_upto_region 1 with (first | (go_at_call 24; refine (End_at _ _ (by omega) _).mono ?_; rintro e w1 ⟨rfl, hk1⟩; have hL := (h.lq.keepA hk1).la; have f36 := hL.frozen 36; have f37 := hL.frozen 37; have f38 := hL.frozen 38; have f39 := hL.frozen 39; have f40 := hL.frozen 40; have d36 := hL.c36; have d37 := hL.c37; have d38 := hL.c38; have d39 := hL.c39; have d40 := hL.c40; clear hL))
  have hQ := (h.lq.keepA hk1).start
  unfold wTok at hQ
  clear f36 f37 f38 f39 f40 d36 d37 d38 d39 d40 c36 c37 hk1 zz b2
  generalize ((((w1.setCell ⟨g, 36, none⟩ (.int .i32 (ps s l : Nat))).setCell ⟨g, 37, none⟩ (.int .i32 0)).setCell ⟨g, 38, none⟩ (.int .u16 0)).setCell ⟨g, 39, none⟩ (.int .u8 0)).setCell ⟨g, 40, none⟩ (.int .u8 0) = wt at hQ ⊢
  have c35 := hQ.la.c35
  have hn : nextF l = ({ kind := 17 }, l.tail, false) := by rw [nextF_plus (by rw [hc]; decide) hnum, hc]; rfl
  have he : endF l = l.tail := by unfold endF; rw [if_neg (by rw [hc]; decide), hn]
  have hcm : ¬ (hd l = 47 ∧ pk l 1 = 42) := by rw [hc]; exact fun e => absurd e.1 (by decide)
  rw [hc] at c35
  clear hc
  go_wp2_with (fail)
  refine (wouldStartNumber_la hQ.la).mono ?_
  rintro e w1 ⟨rfl, rfl⟩
  rw [hnum]
  go_wp2_with (fail)
  refine (step_la hQ.la).mono ?_
  rintro e w2 ⟨rfl, hA⟩
  have hQ2 := hQ.stepS hA
  clear hA
  have d39 := hQ2.la.c39
  have f39 := hQ2.la.frozen 39
  go_wp2_with (fail)
  have hsu := h.suf (tail_suf l)
  exact NxR.one hQ2 (tok0_38 r) (tok0_40 r) h.tok34 hcm he (by rw [hn]) (by rw [hn]) (by rw [hn]) hsu.1 hsu.2 ⟨rfl, rfl, rfl⟩
end Go.Proofs.YtedckphklebndaaGreatDoor
