/- The package's next at quotes, names, hashes. -/
import Derived.Test.YtedckphklebndaaGreatDoorQR19
import Derived.Test.YtedckphklebndaaGreatDoorQGR10
namespace Go.Proofs.YtedckphklebndaaGreatDoor
open Go Go.RowKit
set_option maxRecDepth 1000000 in
set_option maxHeartbeats 16000000 in
theorem nx_quot34 {S : Nat → Prop} {B : Nat} {k : LK} {w0 w : World} {g : Nat} {s : ByteArray} {r : Nat → Value} {st : Nat} {l lt : List Int} {q : Nat} (h : NQ S B k w0 w g s r st l lt q) (hc : hd l = 34) (ho : (quotF (hd l) [] l.tail).2.2 = false) (f : Nat → Value) :
    Code.wp Tryz.prog nxBody (NxR S B k w0 g s l) ⟨fr592 (.pointer (some ⟨g, 0, none⟩)) f, []⟩ w := by
  unfold fr592
  conv => arg 2; whnf
  have c36 := h.lq.la.c36
  have c37 := h.lq.la.c37
  have hps := ps_le s l
  have hsz := h.lq.la.size
  have zz : (st : Int) + ((ps s l : Int) - st) = (ps s l : Nat) := by omega
  have b2 : ((ps s l : Nat) : Int) ≤ 2147483647 := by omega
  go_upto_region 1 with (first | (go_at_call 24; refine (End_at _ _ (by omega) _).mono ?_; rintro e w1 ⟨rfl, hk1⟩; have hL := (h.lq.keepA hk1).la; have f36 := hL.frozen 36; have f37 := hL.frozen 37; have f38 := hL.frozen 38; have f39 := hL.frozen 39; have f40 := hL.frozen 40; have d36 := hL.c36; have d37 := hL.c37; have d38 := hL.c38; have d39 := hL.c39; have d40 := hL.c40; clear hL))
  have hQ := (h.lq.keepA hk1).start
  unfold wTok at hQ
  clear f36 f37 f38 f39 f40 d36 d37 d38 d39 d40 c36 c37 hk1 zz b2
  generalize ((((w1.setCell ⟨g, 36, none⟩ (.int .i32 (ps s l : Nat))).setCell ⟨g, 37, none⟩ (.int .i32 0)).setCell ⟨g, 38, none⟩ (.int .u16 0)).setCell ⟨g, 39, none⟩ (.int .u8 0)).setCell ⟨g, 40, none⟩ (.int .u8 0) = wt at hQ ⊢
  have c35 := hQ.la.c35
  have hqu : hd l = 34 ∨ hd l = 39 := by rw [hc]; decide
  have hn : nextF l = quotF (hd l) [] l.tail := nextF_quot hqu
  have he : endF l = (quotF (hd l) [] l.tail).2.1 := by unfold endF; rw [if_neg (by rw [hc]; decide), hn]
  have hcm : ¬ (hd l = 47 ∧ pk l 1 = 42) := by rw [hc]; exact fun e => absurd e.1 (by decide)
  have hne : l ≠ [] := by rintro rfl; exact absurd hc (by decide)
  have hsq := scan_quot hqu l.tail [] ho
  have hR : (quotF (hd l) [] l.tail).2.1 <:+ l := by have := nextF_suf l; rw [hn] at this; exact this
  have hlt2 : (quotF (hd l) [] l.tail).2.1.length < l.length := by have := nextF_lt hne; rw [hn] at this; exact this
  have hq2 := h.lts (n := 1) hR (by omega)
  have HC := Lib.hid hc
  rw [hc] at c35
  clear hc
  go_wp2_with (fail)
  refine (consumeString_lq hQ h.hs h.q hqu hsq.1 hsq.2).mono ?_
  rintro e w2 ⟨rfl, r2, lt2, hQ2, hO, hs2⟩
  have d39 := hQ2.la.c39
  have f39 := hQ2.la.frozen 39
  go_wp2_with (fail)
  exact NxR.one hQ2 (by rw [hO 38 (by omega)]; exact tok0_38 r) (by rw [hO 40 (by omega)]; exact tok0_40 r) (by rw [hO 34 (by omega)]; exact h.tok34) hcm he (by rw [hn]) (by rw [hn]; exact (quotF_u _ _ _).1) (by rw [hn]; exact (quotF_u _ _ _).2) hq2 hs2 ⟨rfl, rfl, rfl⟩
set_option maxRecDepth 1000000 in
set_option maxHeartbeats 16000000 in
theorem nx_quot39 {S : Nat → Prop} {B : Nat} {k : LK} {w0 w : World} {g : Nat} {s : ByteArray} {r : Nat → Value} {st : Nat} {l lt : List Int} {q : Nat} (h : NQ S B k w0 w g s r st l lt q) (hc : hd l = 39) (ho : (quotF (hd l) [] l.tail).2.2 = false) (f : Nat → Value) :
    Code.wp Tryz.prog nxBody (NxR S B k w0 g s l) ⟨fr592 (.pointer (some ⟨g, 0, none⟩)) f, []⟩ w := by
  unfold fr592
  conv => arg 2; whnf
  have c36 := h.lq.la.c36
  have c37 := h.lq.la.c37
  have hps := ps_le s l
  have hsz := h.lq.la.size
  have zz : (st : Int) + ((ps s l : Int) - st) = (ps s l : Nat) := by omega
  have b2 : ((ps s l : Nat) : Int) ≤ 2147483647 := by omega
  go_upto_region 1 with (first | (go_at_call 24; refine (End_at _ _ (by omega) _).mono ?_; rintro e w1 ⟨rfl, hk1⟩; have hL := (h.lq.keepA hk1).la; have f36 := hL.frozen 36; have f37 := hL.frozen 37; have f38 := hL.frozen 38; have f39 := hL.frozen 39; have f40 := hL.frozen 40; have d36 := hL.c36; have d37 := hL.c37; have d38 := hL.c38; have d39 := hL.c39; have d40 := hL.c40; clear hL))
  have hQ := (h.lq.keepA hk1).start
  unfold wTok at hQ
  clear f36 f37 f38 f39 f40 d36 d37 d38 d39 d40 c36 c37 hk1 zz b2
  generalize ((((w1.setCell ⟨g, 36, none⟩ (.int .i32 (ps s l : Nat))).setCell ⟨g, 37, none⟩ (.int .i32 0)).setCell ⟨g, 38, none⟩ (.int .u16 0)).setCell ⟨g, 39, none⟩ (.int .u8 0)).setCell ⟨g, 40, none⟩ (.int .u8 0) = wt at hQ ⊢
  have c35 := hQ.la.c35
  have hqu : hd l = 34 ∨ hd l = 39 := by rw [hc]; decide
  have hn : nextF l = quotF (hd l) [] l.tail := nextF_quot hqu
  have he : endF l = (quotF (hd l) [] l.tail).2.1 := by unfold endF; rw [if_neg (by rw [hc]; decide), hn]
  have hcm : ¬ (hd l = 47 ∧ pk l 1 = 42) := by rw [hc]; exact fun e => absurd e.1 (by decide)
  have hne : l ≠ [] := by rintro rfl; exact absurd hc (by decide)
  have hsq := scan_quot hqu l.tail [] ho
  have hR : (quotF (hd l) [] l.tail).2.1 <:+ l := by have := nextF_suf l; rw [hn] at this; exact this
  have hlt2 : (quotF (hd l) [] l.tail).2.1.length < l.length := by have := nextF_lt hne; rw [hn] at this; exact this
  have hq2 := h.lts (n := 1) hR (by omega)
  have HC := Lib.hid hc
  rw [hc] at c35
  clear hc
  go_wp2_with (fail)
  refine (consumeString_lq hQ h.hs h.q hqu hsq.1 hsq.2).mono ?_
  rintro e w2 ⟨rfl, r2, lt2, hQ2, hO, hs2⟩
  have d39 := hQ2.la.c39
  have f39 := hQ2.la.frozen 39
  go_wp2_with (fail)
  exact NxR.one hQ2 (by rw [hO 38 (by omega)]; exact tok0_38 r) (by rw [hO 40 (by omega)]; exact tok0_40 r) (by rw [hO 34 (by omega)]; exact h.tok34) hcm he (by rw [hn]) (by rw [hn]; exact (quotF_u _ _ _).1) (by rw [hn]; exact (quotF_u _ _ _).2) hq2 hs2 ⟨rfl, rfl, rfl⟩
set_option maxRecDepth 1000000 in
set_option maxHeartbeats 16000000 in
theorem nx_backid {S : Nat → Prop} {B : Nat} {k : LK} {w0 w : World} {g : Nat} {s : ByteArray} {r : Nat → Value} {st : Nat} {l lt : List Int} {q : Nat} (h : NQ S B k w0 w g s r st l lt q) (hc : hd l = 92) (hid : escs (hd l) (pk l 1) = true) (ho : (namedF l).2.2 = false) (f : Nat → Value) :
    Code.wp Tryz.prog nxBody (NxR S B k w0 g s l) ⟨fr592 (.pointer (some ⟨g, 0, none⟩)) f, []⟩ w := by
  unfold fr592
  conv => arg 2; whnf
  have c36 := h.lq.la.c36
  have c37 := h.lq.la.c37
  have hps := ps_le s l
  have hsz := h.lq.la.size
  have zz : (st : Int) + ((ps s l : Int) - st) = (ps s l : Nat) := by omega
  have b2 : ((ps s l : Nat) : Int) ≤ 2147483647 := by omega
  go_upto_region 1 with (first | (go_at_call 24; refine (End_at _ _ (by omega) _).mono ?_; rintro e w1 ⟨rfl, hk1⟩; have hL := (h.lq.keepA hk1).la; have f36 := hL.frozen 36; have f37 := hL.frozen 37; have f38 := hL.frozen 38; have f39 := hL.frozen 39; have f40 := hL.frozen 40; have d36 := hL.c36; have d37 := hL.c37; have d38 := hL.c38; have d39 := hL.c39; have d40 := hL.c40; clear hL))
  have hQ := (h.lq.keepA hk1).start
  unfold wTok at hQ
  clear f36 f37 f38 f39 f40 d36 d37 d38 d39 d40 c36 c37 hk1 zz b2
  generalize ((((w1.setCell ⟨g, 36, none⟩ (.int .i32 (ps s l : Nat))).setCell ⟨g, 37, none⟩ (.int .i32 0)).setCell ⟨g, 38, none⟩ (.int .u16 0)).setCell ⟨g, 39, none⟩ (.int .u8 0)).setCell ⟨g, 40, none⟩ (.int .u8 0) = wt at hQ ⊢
  have c35 := hQ.la.c35
  have hne : l ≠ [] := by rintro rfl; exact absurd hc (by decide)
  have hn : nextF l = namedF l := nextF_named (by unfold idnt; rw [hid, hc]; rfl) (by rw [hc]; unfold cnts; simp [isDg]) (fun e => by rw [hc] at e; exact absurd e.1 (by decide))
  have hcm : ¬ (hd l = 47 ∧ pk l 1 = 42) := by rw [hc]; exact fun e => absurd e.1 (by decide)
  have he : endF l = (namedF l).2.1 := by unfold endF; rw [if_neg (by rw [hc]; decide), hn]
  have hR := namedF_suf l
  have hlt2 : (namedF l).2.1.length < l.length := by have := nextF_lt hne; rw [hn] at this; exact this
  have hq2 := h.lts (n := 1) hR (by omega)
  rw [hc] at c35
  clear hc
  go_wp2_with (fail)
  refine (isValidEscape_la hQ.la).mono ?_
  rintro e w1 ⟨rfl, hK1⟩
  rw [hid]
  replace hQ := hQ.keepA hK1
  go_wp2_with (fail)
  refine (consumeIdentLike_lq hQ h.hs h.q ho rfl).mono ?_
  rintro e w2 ⟨rfl, r2, lt2, hQ2, hO, hs2⟩
  have d39 := hQ2.la.c39
  have f39 := hQ2.la.frozen 39
  go_wp2_with (fail)
  exact NxR.one hQ2 (by rw [hO 38 (by omega)]; exact tok0_38 r) (by rw [hO 40 (by omega)]; exact tok0_40 r) (by rw [hO 34 (by omega)]; exact h.tok34) hcm he (by rw [hn]) (by rw [hn]; exact (namedF_u _).1) (by rw [hn]; exact (namedF_u _).2) hq2 hs2 ⟨rfl, rfl, rfl⟩
set_option maxRecDepth 1000000 in
set_option maxHeartbeats 16000000 in
theorem nx_oname {S : Nat → Prop} {B : Nat} {k : LK} {w0 w : World} {g : Nat} {s : ByteArray} {r : Nat → Value} {st : Nat} {l lt : List Int} {q : Nat} (h : NQ S B k w0 w g s r st l lt q) (hoth : isOther (hd l) = true) (hst : strt (hd l) = true) (ho : (namedF l).2.2 = false) (f : Nat → Value) :
    Code.wp Tryz.prog nxBody (NxR S B k w0 g s l) ⟨fr592 (.pointer (some ⟨g, 0, none⟩)) f, []⟩ w := by
  unfold fr592
  conv => arg 2; whnf
  have c36 := h.lq.la.c36
  have c37 := h.lq.la.c37
  have hps := ps_le s l
  have hsz := h.lq.la.size
  have zz : (st : Int) + ((ps s l : Int) - st) = (ps s l : Nat) := by omega
  have b2 : ((ps s l : Nat) : Int) ≤ 2147483647 := by omega
  go_upto_region 1 with (first | (go_at_call 24; refine (End_at _ _ (by omega) _).mono ?_; rintro e w1 ⟨rfl, hk1⟩; have hL := (h.lq.keepA hk1).la; have f36 := hL.frozen 36; have f37 := hL.frozen 37; have f38 := hL.frozen 38; have f39 := hL.frozen 39; have f40 := hL.frozen 40; have d36 := hL.c36; have d37 := hL.c37; have d38 := hL.c38; have d39 := hL.c39; have d40 := hL.c40; clear hL))
  have hQ := (h.lq.keepA hk1).start
  unfold wTok at hQ
  clear f36 f37 f38 f39 f40 d36 d37 d38 d39 d40 c36 c37 hk1 zz b2
  generalize ((((w1.setCell ⟨g, 36, none⟩ (.int .i32 (ps s l : Nat))).setCell ⟨g, 37, none⟩ (.int .i32 0)).setCell ⟨g, 38, none⟩ (.int .u16 0)).setCell ⟨g, 39, none⟩ (.int .u8 0)).setCell ⟨g, 40, none⟩ (.int .u8 0) = wt at hQ ⊢
  have c35 := hQ.la.c35
  have hsp : ¬ isSp (hd l) = true := by
    have hx := hoth
    unfold isOther at hx
    simp only [Bool.not_eq_true', Bool.or_eq_false_iff] at hx
    simp [hx.1.1.1.1.1.1.1.1.1.1.1.2]
  have hne : l ≠ [] := by rintro rfl; exact absurd hoth (by decide)
  have hcm : ¬ (hd l = 47 ∧ pk l 1 = 42) := by rintro ⟨e, _⟩; rw [e] at hoth; exact absurd hoth (by decide)
  have hz : hd l ≠ 0 := by
    cases l with
    | nil => exact absurd rfl hne
    | cons c t => have := h.lq.la.sfx.all.head.1; simp only [hd_cons]; omega
  have hn : nextF l = namedF l := nextF_oname hoth (by rw [idnt_other hoth]; exact hst)
  have k0 : strt0 (hd l) = true := by unfold strt0; rw [hst]; rfl
  have he : endF l = (namedF l).2.1 := by unfold endF; rw [if_neg hsp, hn]
  have hR := namedF_suf l
  have hlt2 : (namedF l).2.1.length < l.length := by have := nextF_lt hne; rw [hn] at this; exact this
  have hq2 := h.lts (n := 1) hR (by omega)
  have hx := hoth
  unfold isOther isDelim isSp isNL isDg at hx
  simp only [Bool.not_eq_true', Bool.or_eq_false_iff, beq_eq_false_iff_ne, Bool.and_eq_false_iff, decide_eq_false_iff_not] at hx
  have kkm1 : (hd l == -1) = false := by simp only [beq_eq_false_iff_ne]; omega
  have kk47 : (hd l == 47) = false := by simp only [beq_eq_false_iff_ne]; omega
  have kk32 : (hd l == 32) = false := by simp only [beq_eq_false_iff_ne]; omega
  have kk9 : (hd l == 9) = false := by simp only [beq_eq_false_iff_ne]; omega
  have kk10 : (hd l == 10) = false := by simp only [beq_eq_false_iff_ne]; omega
  have kk13 : (hd l == 13) = false := by simp only [beq_eq_false_iff_ne]; omega
  have kk12 : (hd l == 12) = false := by simp only [beq_eq_false_iff_ne]; omega
  have kk34 : (hd l == 34) = false := by simp only [beq_eq_false_iff_ne]; omega
  have kk39 : (hd l == 39) = false := by simp only [beq_eq_false_iff_ne]; omega
  have kk35 : (hd l == 35) = false := by simp only [beq_eq_false_iff_ne]; omega
  have kk40 : (hd l == 40) = false := by simp only [beq_eq_false_iff_ne]; omega
  have kk41 : (hd l == 41) = false := by simp only [beq_eq_false_iff_ne]; omega
  have kk91 : (hd l == 91) = false := by simp only [beq_eq_false_iff_ne]; omega
  have kk93 : (hd l == 93) = false := by simp only [beq_eq_false_iff_ne]; omega
  have kk123 : (hd l == 123) = false := by simp only [beq_eq_false_iff_ne]; omega
  have kk125 : (hd l == 125) = false := by simp only [beq_eq_false_iff_ne]; omega
  have kk44 : (hd l == 44) = false := by simp only [beq_eq_false_iff_ne]; omega
  have kk58 : (hd l == 58) = false := by simp only [beq_eq_false_iff_ne]; omega
  have kk59 : (hd l == 59) = false := by simp only [beq_eq_false_iff_ne]; omega
  have kk43 : (hd l == 43) = false := by simp only [beq_eq_false_iff_ne]; omega
  have kk46 : (hd l == 46) = false := by simp only [beq_eq_false_iff_ne]; omega
  have kk45 : (hd l == 45) = false := by simp only [beq_eq_false_iff_ne]; omega
  have kk60 : (hd l == 60) = false := by simp only [beq_eq_false_iff_ne]; omega
  have kk64 : (hd l == 64) = false := by simp only [beq_eq_false_iff_ne]; omega
  have kk92 : (hd l == 92) = false := by simp only [beq_eq_false_iff_ne]; omega
  have kk48 : (hd l == 48) = false := by simp only [beq_eq_false_iff_ne]; omega
  have kk49 : (hd l == 49) = false := by simp only [beq_eq_false_iff_ne]; omega
  have kk50 : (hd l == 50) = false := by simp only [beq_eq_false_iff_ne]; omega
  have kk51 : (hd l == 51) = false := by simp only [beq_eq_false_iff_ne]; omega
  have kk52 : (hd l == 52) = false := by simp only [beq_eq_false_iff_ne]; omega
  have kk53 : (hd l == 53) = false := by simp only [beq_eq_false_iff_ne]; omega
  have kk54 : (hd l == 54) = false := by simp only [beq_eq_false_iff_ne]; omega
  have kk55 : (hd l == 55) = false := by simp only [beq_eq_false_iff_ne]; omega
  have kk56 : (hd l == 56) = false := by simp only [beq_eq_false_iff_ne]; omega
  have kk57 : (hd l == 57) = false := by simp only [beq_eq_false_iff_ne]; omega
  have kk62 : (hd l == 62) = false := by simp only [beq_eq_false_iff_ne]; omega
  have kk126 : (hd l == 126) = false := by simp only [beq_eq_false_iff_ne]; omega
  have kk38 : (hd l == 38) = false := by simp only [beq_eq_false_iff_ne]; omega
  have kk42 : (hd l == 42) = false := by simp only [beq_eq_false_iff_ne]; omega
  have kk124 : (hd l == 124) = false := by simp only [beq_eq_false_iff_ne]; omega
  have kk33 : (hd l == 33) = false := by simp only [beq_eq_false_iff_ne]; omega
  have kk61 : (hd l == 61) = false := by simp only [beq_eq_false_iff_ne]; omega
  have kk94 : (hd l == 94) = false := by simp only [beq_eq_false_iff_ne]; omega
  have kk36 : (hd l == 36) = false := by simp only [beq_eq_false_iff_ne]; omega
  clear hx
  go_wp2_with (fail)
  refine (IsNameStart_calls _ _).mono ?_
  rintro e w1 ⟨rfl, rfl⟩
  rw [k0]
  go_wp2_with (fail)
  refine (consumeIdentLike_lq hQ h.hs h.q ho rfl).mono ?_
  rintro e w2 ⟨rfl, r2, lt2, hQ2, hO, hs2⟩
  have d39 := hQ2.la.c39
  have f39 := hQ2.la.frozen 39
  go_wp2_with (fail)
  exact NxR.one hQ2 (by rw [hO 38 (by omega)]; exact tok0_38 r) (by rw [hO 40 (by omega)]; exact tok0_40 r) (by rw [hO 34 (by omega)]; exact h.tok34) hcm he (by rw [hn]) (by rw [hn]; exact (namedF_u _).1) (by rw [hn]; exact (namedF_u _).2) hq2 hs2 ⟨rfl, rfl, rfl⟩
set_option maxRecDepth 1000000 in
set_option maxHeartbeats 16000000 in
theorem nx_other {S : Nat → Prop} {B : Nat} {k : LK} {w0 w : World} {g : Nat} {s : ByteArray} {r : Nat → Value} {st : Nat} {l lt : List Int} {q : Nat} (h : NQ S B k w0 w g s r st l lt q) (hoth : isOther (hd l) = true) (hst : strt (hd l) = false) (f : Nat → Value) :
    Code.wp Tryz.prog nxBody (NxR S B k w0 g s l) ⟨fr592 (.pointer (some ⟨g, 0, none⟩)) f, []⟩ w := by
  unfold fr592
  conv => arg 2; whnf
  have c36 := h.lq.la.c36
  have c37 := h.lq.la.c37
  have hps := ps_le s l
  have hsz := h.lq.la.size
  have zz : (st : Int) + ((ps s l : Int) - st) = (ps s l : Nat) := by omega
  have b2 : ((ps s l : Nat) : Int) ≤ 2147483647 := by omega
  go_upto_region 1 with (first | (go_at_call 24; refine (End_at _ _ (by omega) _).mono ?_; rintro e w1 ⟨rfl, hk1⟩; have hL := (h.lq.keepA hk1).la; have f36 := hL.frozen 36; have f37 := hL.frozen 37; have f38 := hL.frozen 38; have f39 := hL.frozen 39; have f40 := hL.frozen 40; have d36 := hL.c36; have d37 := hL.c37; have d38 := hL.c38; have d39 := hL.c39; have d40 := hL.c40; clear hL))
  have hQ := (h.lq.keepA hk1).start
  unfold wTok at hQ
  clear f36 f37 f38 f39 f40 d36 d37 d38 d39 d40 c36 c37 hk1 zz b2
  generalize ((((w1.setCell ⟨g, 36, none⟩ (.int .i32 (ps s l : Nat))).setCell ⟨g, 37, none⟩ (.int .i32 0)).setCell ⟨g, 38, none⟩ (.int .u16 0)).setCell ⟨g, 39, none⟩ (.int .u8 0)).setCell ⟨g, 40, none⟩ (.int .u8 0) = wt at hQ ⊢
  have c35 := hQ.la.c35
  have hsp : ¬ isSp (hd l) = true := by
    have hx := hoth
    unfold isOther at hx
    simp only [Bool.not_eq_true', Bool.or_eq_false_iff] at hx
    simp [hx.1.1.1.1.1.1.1.1.1.1.1.2]
  have hne : l ≠ [] := by rintro rfl; exact absurd hoth (by decide)
  have hcm : ¬ (hd l = 47 ∧ pk l 1 = 42) := by rintro ⟨e, _⟩; rw [e] at hoth; exact absurd hoth (by decide)
  have hz : hd l ≠ 0 := by
    cases l with
    | nil => exact absurd rfl hne
    | cons c t => have := h.lq.la.sfx.all.head.1; simp only [hd_cons]; omega
  have hn : nextF l = ({ kind := 11 }, l.tail, false) := nextF_other hoth (by rw [idnt_other hoth]; exact hst)
  have he : endF l = l.tail := by unfold endF; rw [if_neg hsp, hn]
  have k0 : strt0 (hd l) = false := by unfold strt0; rw [hst]; simp [hz]
  have hx := hoth
  unfold isOther isDelim isSp isNL isDg at hx
  simp only [Bool.not_eq_true', Bool.or_eq_false_iff, beq_eq_false_iff_ne, Bool.and_eq_false_iff, decide_eq_false_iff_not] at hx
  have kkm1 : (hd l == -1) = false := by simp only [beq_eq_false_iff_ne]; omega
  have kk47 : (hd l == 47) = false := by simp only [beq_eq_false_iff_ne]; omega
  have kk32 : (hd l == 32) = false := by simp only [beq_eq_false_iff_ne]; omega
  have kk9 : (hd l == 9) = false := by simp only [beq_eq_false_iff_ne]; omega
  have kk10 : (hd l == 10) = false := by simp only [beq_eq_false_iff_ne]; omega
  have kk13 : (hd l == 13) = false := by simp only [beq_eq_false_iff_ne]; omega
  have kk12 : (hd l == 12) = false := by simp only [beq_eq_false_iff_ne]; omega
  have kk34 : (hd l == 34) = false := by simp only [beq_eq_false_iff_ne]; omega
  have kk39 : (hd l == 39) = false := by simp only [beq_eq_false_iff_ne]; omega
  have kk35 : (hd l == 35) = false := by simp only [beq_eq_false_iff_ne]; omega
  have kk40 : (hd l == 40) = false := by simp only [beq_eq_false_iff_ne]; omega
  have kk41 : (hd l == 41) = false := by simp only [beq_eq_false_iff_ne]; omega
  have kk91 : (hd l == 91) = false := by simp only [beq_eq_false_iff_ne]; omega
  have kk93 : (hd l == 93) = false := by simp only [beq_eq_false_iff_ne]; omega
  have kk123 : (hd l == 123) = false := by simp only [beq_eq_false_iff_ne]; omega
  have kk125 : (hd l == 125) = false := by simp only [beq_eq_false_iff_ne]; omega
  have kk44 : (hd l == 44) = false := by simp only [beq_eq_false_iff_ne]; omega
  have kk58 : (hd l == 58) = false := by simp only [beq_eq_false_iff_ne]; omega
  have kk59 : (hd l == 59) = false := by simp only [beq_eq_false_iff_ne]; omega
  have kk43 : (hd l == 43) = false := by simp only [beq_eq_false_iff_ne]; omega
  have kk46 : (hd l == 46) = false := by simp only [beq_eq_false_iff_ne]; omega
  have kk45 : (hd l == 45) = false := by simp only [beq_eq_false_iff_ne]; omega
  have kk60 : (hd l == 60) = false := by simp only [beq_eq_false_iff_ne]; omega
  have kk64 : (hd l == 64) = false := by simp only [beq_eq_false_iff_ne]; omega
  have kk92 : (hd l == 92) = false := by simp only [beq_eq_false_iff_ne]; omega
  have kk48 : (hd l == 48) = false := by simp only [beq_eq_false_iff_ne]; omega
  have kk49 : (hd l == 49) = false := by simp only [beq_eq_false_iff_ne]; omega
  have kk50 : (hd l == 50) = false := by simp only [beq_eq_false_iff_ne]; omega
  have kk51 : (hd l == 51) = false := by simp only [beq_eq_false_iff_ne]; omega
  have kk52 : (hd l == 52) = false := by simp only [beq_eq_false_iff_ne]; omega
  have kk53 : (hd l == 53) = false := by simp only [beq_eq_false_iff_ne]; omega
  have kk54 : (hd l == 54) = false := by simp only [beq_eq_false_iff_ne]; omega
  have kk55 : (hd l == 55) = false := by simp only [beq_eq_false_iff_ne]; omega
  have kk56 : (hd l == 56) = false := by simp only [beq_eq_false_iff_ne]; omega
  have kk57 : (hd l == 57) = false := by simp only [beq_eq_false_iff_ne]; omega
  have kk62 : (hd l == 62) = false := by simp only [beq_eq_false_iff_ne]; omega
  have kk126 : (hd l == 126) = false := by simp only [beq_eq_false_iff_ne]; omega
  have kk38 : (hd l == 38) = false := by simp only [beq_eq_false_iff_ne]; omega
  have kk42 : (hd l == 42) = false := by simp only [beq_eq_false_iff_ne]; omega
  have kk124 : (hd l == 124) = false := by simp only [beq_eq_false_iff_ne]; omega
  have kk33 : (hd l == 33) = false := by simp only [beq_eq_false_iff_ne]; omega
  have kk61 : (hd l == 61) = false := by simp only [beq_eq_false_iff_ne]; omega
  have kk94 : (hd l == 94) = false := by simp only [beq_eq_false_iff_ne]; omega
  have kk36 : (hd l == 36) = false := by simp only [beq_eq_false_iff_ne]; omega
  clear hx
  go_wp2_with (fail)
  refine (IsNameStart_calls _ _).mono ?_
  rintro e w1 ⟨rfl, rfl⟩
  rw [k0]
  go_wp2_with (fail)
  refine (step_la hQ.la).mono ?_
  rintro e w2 ⟨rfl, hA⟩
  have hQ2 := hQ.stepS hA
  clear hA
  have d39 := hQ2.la.c39
  have f39 := hQ2.la.frozen 39
  go_wp2_with (fail)
  have hsu := h.suf (tail_suf l)
  exact NxR.one hQ2 (tok0_38 r) (tok0_40 r) h.tok34 hcm he (by rw [hn]) (by rw [hn]) (by rw [hn]) hsu.1 hsu.2 ⟨rfl, rfl, rfl⟩
end Go.Proofs.YtedckphklebndaaGreatDoor
