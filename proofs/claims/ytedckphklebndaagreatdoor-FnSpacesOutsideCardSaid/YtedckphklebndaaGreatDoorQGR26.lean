/- The package's next at a hyphen that begins a name. -/
import Derived.Test.YtedckphklebndaaGreatDoorQR20
import Derived.Test.YtedckphklebndaaGreatDoorQR23
import Derived.Test.YtedckphklebndaaGreatDoorQR24
import Derived.Test.YtedckphklebndaaGreatDoorQR18
import Derived.Test.YtedckphklebndaaGreatDoorQGT0
import Derived.Laws.Tables
import Derived.OrdersHeld
namespace Go.Proofs.YtedckphklebndaaGreatDoor
open Go Go.RowKit
set_option maxRecDepth 1000000 in
set_option maxHeartbeats 16000000 in
theorem nx_slash2 {S : Nat → Prop} {B : Nat} {k : LK} {w0 w : World} {g : Nat} {s : ByteArray} {r : Nat → Value} {st : Nat} {l lt : List Int} {q : Nat} (h : NQ S B k w0 w g s r st l lt q) (hc : hd l = 47) (h47 : pk l 1 = 47) (f : Nat → Value) :
    Code.wp Tryz.prog nxBody (NxR S B k w0 g s l) ⟨fr592 (.pointer (some ⟨g, 0, none⟩)) f, []⟩ w := by
  unfold fr592
  conv => arg 2; whnf
  have c36 := h.lq.la.c36
  have c37 := h.lq.la.c37
  have hps := ps_le s l
  have hsz := h.lq.la.size
  have zz : (st : Int) + ((ps s l : Int) - st) = (ps s l : Nat) := by omega
  have b2 : ((ps s l : Nat) : Int) ≤ 2147483647 := by omega
  go_upto_region 1 with (first | (go_at_call 24; refine (End_at _ _ (by omega) _).mono ?_; rintro e w1 ⟨rfl, hk1⟩; have hL := (h.lq.keepA hk1).la; have f36 := hL.frozen 36; have f37 := hL.frozen 37; have f38 := hL.frozen 38; have f39 := hL.frozen 39; have f40 := hL.frozen 40; have d36 := hL.c36; have d37 := hL.c37; have d38 := hL.c38; have d39 := hL.c39; have d40 := hL.c40; clear hL))
  have hQ := (h.lq.keepA hk1).start
  unfold wTok at hQ
  clear f36 f37 f38 f39 f40 d36 d37 d38 d39 d40 c36 c37 hk1 zz b2
  generalize ((((w1.setCell ⟨g, 36, none⟩ (.int .i32 (ps s l : Nat))).setCell ⟨g, 37, none⟩ (.int .i32 0)).setCell ⟨g, 38, none⟩ (.int .u16 0)).setCell ⟨g, 39, none⟩ (.int .u8 0)).setCell ⟨g, 40, none⟩ (.int .u8 0) = wt at hQ ⊢
  have c35 := hQ.la.c35
  have hn : nextF l = ({ kind := 24 }, l.tail, false) := by rw [nextF_delim (by rw [hc]; rfl), hc]; rfl
  have he : endF l = l.tail := by unfold endF; rw [if_neg (by rw [hc]; decide), hn]
  have hcm : ¬ (hd l = 47 ∧ pk l 1 = 42) := fun e => by rw [h47] at e; exact absurd e.2 (by decide)
  have hne : l ≠ [] := by rintro rfl; exact absurd hc (by decide)
  have hlt2 : l.tail.length < l.length := tail_lt' hne
  have hq2 := h.lts (n := 1) (tail_suf l) (by omega)
  have hsu := h.suf (tail_suf l)
  have hb2 := ps_le s l.tail.tail
  have hqb := h.q
  rw [pk_one] at h47
  have HC := Lib.hid hc
  have H47 := Lib.hid h47
  rw [hc] at c35
  clear hc h47 hne hlt2
  go_wp2_with (fail)
  refine (step_la hQ.la).mono ?_
  rintro e w2 ⟨rfl, hA⟩
  have hQ2 := hQ.stepS hA
  clear hA
  clear hQ c35
  have d35 := hQ2.la.c35
  rw [H47.out] at d35
  obtain ⟨x, hx⟩ := h.tok34
  have d34 := hQ2.la.c34
  rw [hx] at d34
  have HXX := Lib.hid hx
  clear hx
  have d36 := hQ2.la.c36
  by_cases hge : x ≤ (ps s l : Nat)
  · go_upto_region 16 with (fail)
    have hKb : KeepA w2 (w2.alloc (.cells #[.int .i32 (ps s l : Nat)] 48)) := (Keep.refl _ _).alloc _
    have hB : (w2.alloc (.cells #[.int .i32 (ps s l : Nat)] 48)).heap[w2.heap.size]? = some (.cells #[.int .i32 (ps s l : Nat)] 48 (0, 0)) := alloc_at _ rfl
    have hQb := hQ2.keepA hKb
    have hXg : w2.heap.size ≠ g := by have := hQ2.la.lt; omega
    clear hQ2 hKb d34 d35 d36
    obtain ⟨wb, hwb⟩ : ∃ x, w2.alloc (.cells #[.int .i32 (ps s l : Nat)] 48) = x := ⟨_, rfl⟩
    obtain ⟨X, hX⟩ : ∃ x, w2.heap.size = x := ⟨_, rfl⟩
    rw [hwb] at hQb hB ⊢
    rw [hX] at hB hXg ⊢
    clear hwb hX
    have d34 := hQb.la.c34
    rw [HXX.out] at d34
    have c10 := hQb.la.c10
    have c33 := hQb.la.c33
    have y0 : wb.cell? ⟨X, 0, none⟩ = some (.int .i32 (ps s l : Nat)) := (blk_cell hB 0).trans rfl
    go_quiet (fail)
    have hKn : KeepA wb (wb.drewN nq) := (Keep.refl _ _).drewN nq
    have hQn := hQb.keepA hKn
    have hBn := hKn.blk hB (fun x => x)
    clear hQb hB hKn c10 c33 y0
    obtain ⟨wn, hwn⟩ : ∃ x, wb.drewN nq = x := ⟨_, rfl⟩
    rw [hwn] at hQn hBn ⊢
    clear hwn
    have c10 := hQn.la.c10
    have c33 := hQn.la.c33
    clear d34
    have hps3 := ps_le s l.tail.tail
    go_upto_block 4 with (fail)
    go_cut [4] from 89 to 102 (fun a wc => ∃ i : Nat, a = .int .i64 (i : Nat) ∧ i ≤ s.size ∧ wc = wn)
    case first =>
      go_wp2_with (fail)
      go_loopg [4] (s.size - ps s l.tail.tail) (fun n a wr => ∃ i : Nat, a = .int .i64 (i : Nat) ∧ n = s.size - i ∧ i ≤ s.size ∧ wr = wn)
      case atStart => exact ⟨ps s l.tail.tail, rfl, rfl, hps3, rfl⟩
      case round =>
        obtain ⟨i, rfl, hn, hi, hw⟩ := hrel
        subst wr
        have HN := Lib.hid hn
        clear hn
        by_cases hlt : i < s.size
        · obtain ⟨x, hx⟩ : ∃ x : Nat, ∀ hi : i < s.size, ((s[i]'hi).toNat) = x := ⟨(s[i]'hlt).toNat, fun _ => rfl⟩
          have hx3 : x < 256 := by rw [← hx hlt]; exact UInt8.toNat_lt _
          have k5 : (i : Int) < s.size := by omega
          have k6 : (0 : Int) ≤ i := by omega
          cases hnl : isNL (x : Int) with
          | true =>
            go_wp2_with (go_at_call 76; refine (isNewlineI_calls _ _).mono ?_; rintro e w' ⟨rfl, rfl⟩)
            go_meet
            case rel => exact ⟨i, rfl, hi, rfl⟩
          | false =>
            go_wp2_with (go_at_call 76; refine (isNewlineI_calls _ _).mono ?_; rintro e w' ⟨rfl, rfl⟩)
            go_roundg (s.size - (i + 1))
            case measure => have := HN.out; omega
            case rel => exact ⟨i + 1, rfl, rfl, by omega, rfl⟩
        · have k5 : ¬ (i : Int) < s.size := by omega
          go_wp2_with (fail)
          go_meet
          case rel => exact ⟨i, rfl, hi, rfl⟩
    case rest =>
      obtain ⟨i, rfl, hi, hw⟩ := hcut
      subst wc
      have hsi : (i : Int) ≤ 1073741824 := by omega
      obtain ⟨l1, l2, l3, l4, l5, l6⟩ := hQn.lc
      have hQe := hQn.keepA ((Keep.refl (fun _ => False) wn).drew)
      have x0 : wn.cell? ⟨X, 0, none⟩ = some (.int .i32 (ps s l : Nat)) := (blk_cell hBn 0).trans rfl
      go_wp2_with (fail)
      go_region_held3 (fun w' => w'.cell? ⟨g, 1, none⟩ = some (.func (.func 48) #[] #[.pointer (some ⟨k.kd, 0, none⟩), .pointer (some ⟨k.mu, 0, none⟩), .pointer (some ⟨k.he, 0, none⟩), .pointer (some ⟨k.ms, 0, none⟩)]) ∧ w'.cell? ⟨g, 2, none⟩ = some (.func (.func 51) #[] #[.pointer (some ⟨k.mu, 0, none⟩), .pointer (some ⟨k.he, 0, none⟩)]) ∧ w'.cell? ⟨g, 3, none⟩ = some (.func (.func 52) #[] #[.pointer (some ⟨k.mu, 0, none⟩), .pointer (some ⟨k.ms, 0, none⟩)]) ∧ w'.cell? ⟨g, 4, none⟩ = some (.func (.func 53) #[] #[.pointer (some ⟨k.mu, 0, none⟩), .pointer (some ⟨k.ms, 0, none⟩)]) ∧ w'.cell? ⟨g, 5, none⟩ = some (.int .i8 3) ∧ w'.cell? ⟨g, 6, none⟩ = some (.map none) ∧ w'.cell? ⟨X, 0, none⟩ = some (.int .i32 (ps s l : Nat))) (go_keep)
        (first
          | (go_at_call 77; refine (AddID_lq hQe h.hs (by omega) 39 (.inr rfl) rfl (by decide) _).mono ?_; intro e wm hG; obtain ⟨rfl, r2, hQm, hO2, hTK⟩ := hG; have b5n := hTK X _ _ _ hBn (by decide) (by decide) (by decide) (by decide) (by decide); obtain ⟨n1, n2, n3, n4, n5, n6⟩ := hQm.lc; have yy0 : wm.cell? ⟨X, 0, none⟩ = some (.int .i32 (ps s l : Nat)) := (blk_cell b5n 0).trans rfl; skip))
      all_goals
        have f34 := hQm.la.frozen 34
        have f39 := hQm.la.frozen 39
        have f40 := hQm.la.frozen 40
        have e34 := hQm.la.c34
        have e39 := hQm.la.c39
        have e40 := hQm.la.c40
        rw [hO2 40 (by omega), tok0_40] at e40
        go_wp2_with (fail)
        have hQ7 := ((hQm.up34 (.int .i32 (i : Nat))).up40 (.int .u8 2)).up39 (.int .u8 24)
        refine NxR.fin hQ7 ⟨(i : Nat), rfl⟩ hcm he ?_ hq2 (tail_suf l) ⟨rfl, rfl, rfl⟩
        rw [hn]
        exact ⟨rfl, by rw [up_other (by decide), up_other (by decide), up_other (by decide), hO2 38 (by omega)]; rfl, 2, rfl, .inr (.inr rfl), ⟨fun e => absurd e (by decide), fun e => Bool.noConfusion e⟩⟩
  · have hge2 : ¬ x ≤ (ps s l : Nat) := hge
    clear hge
    go_upto_region 16 with (fail)
    have hKb : KeepA w2 (w2.alloc (.cells #[.int .i32 (ps s l : Nat)] 48)) := (Keep.refl _ _).alloc _
    have hB : (w2.alloc (.cells #[.int .i32 (ps s l : Nat)] 48)).heap[w2.heap.size]? = some (.cells #[.int .i32 (ps s l : Nat)] 48 (0, 0)) := alloc_at _ rfl
    have hQb := hQ2.keepA hKb
    have hXg : w2.heap.size ≠ g := by have := hQ2.la.lt; omega
    clear hQ2 hKb d34 d35 d36
    obtain ⟨wb, hwb⟩ : ∃ x, w2.alloc (.cells #[.int .i32 (ps s l : Nat)] 48) = x := ⟨_, rfl⟩
    obtain ⟨X, hX⟩ : ∃ x, w2.heap.size = x := ⟨_, rfl⟩
    rw [hwb] at hQb hB ⊢
    rw [hX] at hB hXg ⊢
    clear hwb hX
    have d34 := hQb.la.c34
    rw [HXX.out] at d34
    have c10 := hQb.la.c10
    have c33 := hQb.la.c33
    have y0 : wb.cell? ⟨X, 0, none⟩ = some (.int .i32 (ps s l : Nat)) := (blk_cell hB 0).trans rfl
    go_quiet (fail)
    have hKn : KeepA wb (wb.drewN nq) := (Keep.refl _ _).drewN nq
    have hQn := hQb.keepA hKn
    have hBn := hKn.blk hB (fun x => x)
    clear hQb hB hKn c10 c33 y0
    obtain ⟨wn, hwn⟩ : ∃ x, wb.drewN nq = x := ⟨_, rfl⟩
    rw [hwn] at hQn hBn ⊢
    clear hwn
    have c10 := hQn.la.c10
    have c33 := hQn.la.c33
    have d39 := hQn.la.c39
    have f39 := hQn.la.frozen 39
    go_wp2_with (fail)
    exact NxR.one hQn (tok0_38 r) (tok0_40 r) h.tok34 hcm he (by rw [hn]) (by rw [hn]) (by rw [hn]) hsu.1 hsu.2 ⟨rfl, rfl, rfl⟩
set_option maxRecDepth 1000000 in
set_option maxHeartbeats 16000000 in
theorem nx_hyname {S : Nat → Prop} {B : Nat} {k : LK} {w0 w : World} {g : Nat} {s : ByteArray} {r : Nat → Value} {st : Nat} {l lt : List Int} {q : Nat} (h : NQ S B k w0 w g s r st l lt q) (hc : hd l = 45) (hnum : cnts (hd l) (pk l 1) (pk l 2) = false) (hcd : ¬ (pk l 1 = 45 ∧ pk l 2 = 62)) (hid : idnt (hd l) (pk l 1) (pk l 2) = true) (ho : (namedF l).2.2 = false) (f : Nat → Value) :
    Code.wp Tryz.prog nxBody (NxR S B k w0 g s l) ⟨fr592 (.pointer (some ⟨g, 0, none⟩)) f, []⟩ w := by
  unfold fr592
  conv => arg 2; whnf
  have c36 := h.lq.la.c36
  have c37 := h.lq.la.c37
  have hps := ps_le s l
  have hsz := h.lq.la.size
  have zz : (st : Int) + ((ps s l : Int) - st) = (ps s l : Nat) := by omega
  have b2 : ((ps s l : Nat) : Int) ≤ 2147483647 := by omega
  go_upto_region 1 with (first | (go_at_call 24; refine (End_at _ _ (by omega) _).mono ?_; rintro e w1 ⟨rfl, hk1⟩; have hL := (h.lq.keepA hk1).la; have f36 := hL.frozen 36; have f37 := hL.frozen 37; have f38 := hL.frozen 38; have f39 := hL.frozen 39; have f40 := hL.frozen 40; have d36 := hL.c36; have d37 := hL.c37; have d38 := hL.c38; have d39 := hL.c39; have d40 := hL.c40; clear hL))
  have hQ := (h.lq.keepA hk1).start
  unfold wTok at hQ
  clear f36 f37 f38 f39 f40 d36 d37 d38 d39 d40 c36 c37 hk1 zz b2
  generalize ((((w1.setCell ⟨g, 36, none⟩ (.int .i32 (ps s l : Nat))).setCell ⟨g, 37, none⟩ (.int .i32 0)).setCell ⟨g, 38, none⟩ (.int .u16 0)).setCell ⟨g, 39, none⟩ (.int .u8 0)).setCell ⟨g, 40, none⟩ (.int .u8 0) = wt at hQ ⊢
  have c35 := hQ.la.c35
  have hcm : ¬ (hd l = 47 ∧ pk l 1 = 42) := by rw [hc]; exact fun e => absurd e.1 (by decide)
  have hne : l ≠ [] := by rintro rfl; exact absurd hc (by decide)
  have hST := h.lq.la.sfx.tl
  have hb2 := ps_le s l.tail
  have hi0 : (0 : Int) ≤ (ps s l.tail : Nat) := by omega
  have hw : IntKind.i64.wrap (((ps s l.tail : Nat) : Int) + 2) = ((ps s l.tail : Nat) : Int) + 2 := by rw [IntKind.wrap_i64]; omega
  have hi2 : ((ps s l.tail : Nat) : Int) ≤ ((ps s l.tail : Nat) : Int) + 2 := by omega
  have htn : (((ps s l.tail : Nat) : Int) + 2).toNat = ps s l.tail + 2 := by omega
  have hn : nextF l = namedF l := nextF_named hid hnum (fun e => hcd e.2)
  have he : endF l = (namedF l).2.1 := by unfold endF; rw [if_neg (by rw [hc]; decide), hn]
  have hR := namedF_suf l
  have hlt2 : (namedF l).2.1.length < l.length := by have := nextF_lt hne; rw [hn] at this; exact this
  have hq2 := h.lts (n := 1) hR (by omega)
  have HNP : Hid (¬ [45, 62] <+: l.tail) := Lib.hid (fun e => hcd (two_pre e))
  have HC := Lib.hid hc
  rw [hc] at c35
  clear hc hne hcd
  by_cases hsz3 : ps s l.tail + 2 ≤ s.size
  · have hgd : decide (((ps s l.tail : Nat) : Int) + 2 ≤ s.size) = true := decide_eq_true (by omega)
    have hi3 : ((ps s l.tail : Nat) : Int) + 2 ≤ s.size := by omega
    have kx : ((s.extract (ps s l.tail) (ps s l.tail + 2)).toList == [45, 62]) = false := by
      rw [ByteArray.toList_eq, beq_eq_false_iff_ne]
      exact fun e => HNP.out ((pre_ext hST (p := [45, 62]) (by decide) 2 rfl).1 e)
    clear hST hsz3
    go_wp2_with (fail)
    refine (wouldStartNumber_la hQ.la).mono ?_
    rintro e w1 ⟨rfl, rfl⟩
    rw [hnum]
    have c10 := hQ.la.c10
    have c33 := hQ.la.c33
    go_wp2_with (fail)
    go_quiet (fail)
    have hKn : KeepA wt (wt.drewN nq) := (Keep.refl _ _).drewN nq
    have hQn := hQ.keepA hKn
    clear hQ hKn c10 c33 c35
    go_wp2_with (fail)
    refine (wouldStartIdentifier_la hQn.la).mono ?_
    rintro e w4 ⟨rfl, hK4⟩
    rw [hid]
    have hQ := hQn.keepA hK4
    clear hQn hK4
    go_wp2_with (fail)
    refine (consumeIdentLike_lq hQ h.hs h.q ho rfl).mono ?_
    rintro e w2 ⟨rfl, r2, lt2, hQ2, hO, hs2⟩
    have d39 := hQ2.la.c39
    have f39 := hQ2.la.frozen 39
    go_wp2_with (fail)
    exact NxR.one hQ2 (by rw [hO 38 (by omega)]; exact tok0_38 r) (by rw [hO 40 (by omega)]; exact tok0_40 r) (by rw [hO 34 (by omega)]; exact h.tok34) hcm he (by rw [hn]) (by rw [hn]; exact (namedF_u _).1) (by rw [hn]; exact (namedF_u _).2) hq2 hs2 ⟨rfl, rfl, rfl⟩
  · have hgd : decide (((ps s l.tail : Nat) : Int) + 2 ≤ s.size) = false := decide_eq_false (by omega)
    have hi3 : ¬ ((ps s l.tail : Nat) : Int) + 2 ≤ s.size := by omega
    clear hST hsz3
    go_wp2_with (fail)
    refine (wouldStartNumber_la hQ.la).mono ?_
    rintro e w1 ⟨rfl, rfl⟩
    rw [hnum]
    have c10 := hQ.la.c10
    have c33 := hQ.la.c33
    go_wp2_with (fail)
    go_quiet (fail)
    have hKn : KeepA wt (wt.drewN nq) := (Keep.refl _ _).drewN nq
    have hQn := hQ.keepA hKn
    clear hQ hKn c10 c33 c35
    go_wp2_with (fail)
    refine (wouldStartIdentifier_la hQn.la).mono ?_
    rintro e w4 ⟨rfl, hK4⟩
    rw [hid]
    have hQ := hQn.keepA hK4
    clear hQn hK4
    go_wp2_with (fail)
    refine (consumeIdentLike_lq hQ h.hs h.q ho rfl).mono ?_
    rintro e w2 ⟨rfl, r2, lt2, hQ2, hO, hs2⟩
    have d39 := hQ2.la.c39
    have f39 := hQ2.la.frozen 39
    go_wp2_with (fail)
    exact NxR.one hQ2 (by rw [hO 38 (by omega)]; exact tok0_38 r) (by rw [hO 40 (by omega)]; exact tok0_40 r) (by rw [hO 34 (by omega)]; exact h.tok34) hcm he (by rw [hn]) (by rw [hn]; exact (namedF_u _).1) (by rw [hn]; exact (namedF_u _).2) hq2 hs2 ⟨rfl, rfl, rfl⟩
end Go.Proofs.YtedckphklebndaaGreatDoor
/- The package's next, whole: its rounds put together. -/
namespace Go.Proofs.YtedckphklebndaaGreatDoor
open Go Go.RowKit
set_option maxRecDepth 100000 in
set_option maxHeartbeats 4000000 in
theorem letters (p : Value) (f : Nat → Value) : (⟨p :: (List.range' 1 591).map f⟩ : Array Value) = fr592 p f := rfl
theorem list_letters (l : List Value) (d : Value) (n : Nat) : l = (List.range' n l.length).map (fun i => l.getD (i - n) d) := by
  refine List.ext_getElem (by simp) ?_
  intro i h1 h2
  simp only [List.getElem_map, List.getElem_range', Nat.one_mul, Nat.add_sub_cancel_left]
  rw [List.getD_eq_getElem?_getD, List.getElem?_eq_getElem h1]
  rfl
set_option maxRecDepth 100000 in
set_option maxHeartbeats 4000000 in
theorem open592 {t : Array Value} {p : Value} (h : t.size = 592) (h0 : t[0]? = some p) : ∃ f : Nat → Value, t = fr592 p f := by
  obtain ⟨l⟩ := t
  cases l with
  | nil => cases h
  | cons a l =>
    simp only [List.size_toArray, List.length_cons, Nat.reduceEqDiff] at h
    simp only [List.getElem?_toArray, List.getElem?_cons_zero, Option.some.injEq] at h0
    subst h0
    have e := list_letters l a 1
    rw [h] at e
    exact ⟨fun i => l.getD (i - 1) a, (congrArg (fun x => (⟨a :: x⟩ : Array Value)) e).trans (letters a _)⟩
theorem cnts_head {l : List Int} (h : cnts (hd l) (pk l 1) (pk l 2) = true) : hd l = 43 ∨ hd l = 45 ∨ hd l = 46 ∨ (48 ≤ hd l ∧ hd l ≤ 57) := by
  unfold cnts at h
  split at h
  · omega
  · by_cases e : hd l = 46
    · omega
    · simp only [beq_eq_false_iff_ne.2 e, Bool.false_and, Bool.or_false, isDg, Bool.and_eq_true, decide_eq_true_eq] at h
      omega
set_option maxRecDepth 1000000 in
set_option maxHeartbeats 16000000 in
theorem nx_any {S : Nat → Prop} {B : Nat} {k : LK} {w0 w : World} {g : Nat} {s : ByteArray} {r : Nat → Value} {st : Nat} {l lt : List Int} {q : Nat} (h : NQ S B k w0 w g s r st l lt q) (hT : (toks l).2 = false) (f : Nat → Value) :
    Code.wp Tryz.prog nxBody (NxR S B k w0 g s l) ⟨fr592 (.pointer (some ⟨g, 0, none⟩)) f, []⟩ w := by
  by_cases hne : l = []
  · exact nx_eof h (Lib.hid hne) f
  by_cases hc1 : hd l = 47 ∧ pk l 1 = 42
  · exact nx_comment h hc1.1 hc1.2 hT f
  have ho := (toks_next hT hc1 hne).1
  by_cases n47 : hd l = 47
  · by_cases h47 : pk l 1 = 47
    · exact nx_slash2 h n47 h47 f
    · exact nx_slash h n47 (fun e => hc1 ⟨n47, e⟩) h47 f
  by_cases n32 : hd l = 32
  · exact nx_ws32 h n32 hT f
  by_cases n9 : hd l = 9
  · exact nx_ws9 h n9 hT f
  by_cases n10 : hd l = 10
  · exact nx_ws10 h n10 hT f
  by_cases n13 : hd l = 13
  · exact nx_ws13 h n13 hT f
  by_cases n12 : hd l = 12
  · exact nx_ws12 h n12 hT f
  by_cases n34 : hd l = 34
  · exact nx_quot34 h n34 (by rw [nextF_quot (by omega)] at ho; exact ho) f
  by_cases n39 : hd l = 39
  · exact nx_quot39 h n39 (by rw [nextF_quot (by omega)] at ho; exact ho) f
  by_cases n35 : hd l = 35
  · cases hcn : cont (pk l 1) with
    | true =>
      have ho2 : (nameF l.tail).2.2 = false := by rw [nextF_hash n35, if_pos (.inl hcn)] at ho; exact ho
      cases hid : idnt (pk l 1) (pk l 2) (pk l 3) with
      | true => exact nx_hashnamei h n35 hcn hid ho2 f
      | false => exact nx_hashnamen h n35 hcn hid ho2 f
    | false =>
      cases hes : escs (pk l 1) (pk l 2) with
      | true =>
        have ho2 : (nameF l.tail).2.2 = false := by rw [nextF_hash n35, if_pos (.inr hes)] at ho; exact ho
        cases hid : idnt (pk l 1) (pk l 2) (pk l 3) with
        | true => exact nx_hashesci h n35 hcn hes hid ho2 f
        | false => exact nx_hashescn h n35 hcn hes hid ho2 f
      | false => exact nx_hash h n35 hcn hes f
  by_cases n40 : hd l = 40
  · exact nx_40 h n40 f
  by_cases n41 : hd l = 41
  · exact nx_41 h n41 f
  by_cases n91 : hd l = 91
  · exact nx_91 h n91 f
  by_cases n93 : hd l = 93
  · exact nx_93 h n93 f
  by_cases n123 : hd l = 123
  · exact nx_123 h n123 f
  by_cases n125 : hd l = 125
  · exact nx_125 h n125 f
  by_cases n44 : hd l = 44
  · exact nx_44 h n44 f
  by_cases n58 : hd l = 58
  · exact nx_58 h n58 f
  by_cases n59 : hd l = 59
  · exact nx_59 h n59 f
  by_cases n62 : hd l = 62
  · exact nx_62 h n62 f
  by_cases n126 : hd l = 126
  · exact nx_126 h n126 f
  by_cases n38 : hd l = 38
  · exact nx_38 h n38 f
  by_cases n42 : hd l = 42
  · exact nx_42 h n42 f
  by_cases n124 : hd l = 124
  · exact nx_124 h n124 f
  by_cases n33 : hd l = 33
  · exact nx_33 h n33 f
  by_cases n61 : hd l = 61
  · exact nx_61 h n61 f
  by_cases n94 : hd l = 94
  · exact nx_94 h n94 f
  by_cases n36 : hd l = 36
  · exact nx_36 h n36 f
  by_cases n43 : hd l = 43
  · cases hnum : cnts (hd l) (pk l 1) (pk l 2) with
    | true => exact nx_num43 h n43 hnum (by rw [nextF_num hnum] at ho; exact ho) f
    | false => exact nx_sign43 h n43 hnum f
  by_cases n46 : hd l = 46
  · cases hnum : cnts (hd l) (pk l 1) (pk l 2) with
    | true => exact nx_num46 h n46 hnum (by rw [nextF_num hnum] at ho; exact ho) f
    | false => exact nx_sign46 h n46 hnum f
  by_cases n45 : hd l = 45
  · cases hnum : cnts (hd l) (pk l 1) (pk l 2) with
    | true => exact nx_num45 h n45 hnum (by rw [nextF_num hnum] at ho; exact ho) f
    | false =>
      by_cases hcd : pk l 1 = 45 ∧ pk l 2 = 62
      · exact nx_cdc h n45 hnum hcd f
      · cases hid : idnt (hd l) (pk l 1) (pk l 2) with
        | true => exact nx_hyname h n45 hnum hcd hid (by rw [nextF_named hid hnum (fun e => hcd e.2)] at ho; exact ho) f
        | false => exact nx_hyphen h n45 hnum hcd hid f
  by_cases n60 : hd l = 60
  · by_cases hcd : pk l 1 = 33 ∧ pk l 2 = 45 ∧ pk l 3 = 45
    · exact nx_cdo h n60 hcd f
    · exact nx_less h n60 hcd f
  by_cases n64 : hd l = 64
  · cases hid : idnt (pk l 1) (pk l 2) (pk l 3) with
    | true => exact nx_atname h n64 hid (by rw [nextF_at n64, if_pos hid] at ho; exact ho) f
    | false => exact nx_at h n64 hid f
  by_cases n92 : hd l = 92
  · cases hes : escs (hd l) (pk l 1) with
    | true => exact nx_backid h n92 hes (by
        rw [nextF_named (by unfold idnt; rw [hes, n92]; rfl) (by rw [n92]; unfold cnts; simp [isDg]) (fun e => by rw [n92] at e; exact absurd e.1 (by decide))] at ho
        exact ho) f
    | false => exact nx_back h n92 hes f
  by_cases n48 : hd l = 48
  · exact nx_dig48 h n48 (by rw [nextF_num (by rw [n48]; unfold cnts; simp [isDg])] at ho; exact ho) f
  by_cases n49 : hd l = 49
  · exact nx_dig49 h n49 (by rw [nextF_num (by rw [n49]; unfold cnts; simp [isDg])] at ho; exact ho) f
  by_cases n50 : hd l = 50
  · exact nx_dig50 h n50 (by rw [nextF_num (by rw [n50]; unfold cnts; simp [isDg])] at ho; exact ho) f
  by_cases n51 : hd l = 51
  · exact nx_dig51 h n51 (by rw [nextF_num (by rw [n51]; unfold cnts; simp [isDg])] at ho; exact ho) f
  by_cases n52 : hd l = 52
  · exact nx_dig52 h n52 (by rw [nextF_num (by rw [n52]; unfold cnts; simp [isDg])] at ho; exact ho) f
  by_cases n53 : hd l = 53
  · exact nx_dig53 h n53 (by rw [nextF_num (by rw [n53]; unfold cnts; simp [isDg])] at ho; exact ho) f
  by_cases n54 : hd l = 54
  · exact nx_dig54 h n54 (by rw [nextF_num (by rw [n54]; unfold cnts; simp [isDg])] at ho; exact ho) f
  by_cases n55 : hd l = 55
  · exact nx_dig55 h n55 (by rw [nextF_num (by rw [n55]; unfold cnts; simp [isDg])] at ho; exact ho) f
  by_cases n56 : hd l = 56
  · exact nx_dig56 h n56 (by rw [nextF_num (by rw [n56]; unfold cnts; simp [isDg])] at ho; exact ho) f
  by_cases n57 : hd l = 57
  · exact nx_dig57 h n57 (by rw [nextF_num (by rw [n57]; unfold cnts; simp [isDg])] at ho; exact ho) f
  have hoth : isOther (hd l) = true := by
    have hm1 : hd l ≠ -1 := by
      cases l with
      | nil => exact absurd rfl hne
      | cons c t => have := h.lq.la.sfx.all.head.1; simp only [hd_cons]; omega
    have e1 : isDg (hd l) = false := by
      unfold isDg
      cases q1 : decide (48 ≤ hd l) with
      | false => rfl
      | true =>
        rw [Bool.true_and, decide_eq_false_iff_not]
        rw [decide_eq_true_eq] at q1
        omega
    unfold isOther isDelim isSp isNL
    rw [e1]
    simp [n47, n32, n9, n10, n13, n12, n34, n39, n35, n40, n41, n91, n93, n123, n125, n44, n58, n59, n62, n126, n38, n42, n124, n33, n61, n94, n36, n43, n46, n45, n60, n64, n92, hm1]
  cases hst : strt (hd l) with
  | true => exact nx_oname h hoth hst (by rw [nextF_oname hoth (by rw [idnt_other hoth]; exact hst)] at ho; exact ho) f
  | false => exact nx_other h hoth hst f
set_option maxRecDepth 1000000 in
set_option maxHeartbeats 16000000 in
theorem next_calls {S : Nat → Prop} {B : Nat} {k : LK} {w0 w : World} {g : Nat} {s : ByteArray} {r : Nat → Value} {st : Nat} {l lt : List Int} {q : Nat} (h : NQ S B k w0 w g s r st l lt q) (hT : (toks l).2 = false) :
    Calls Tryz.prog 57 #[.pointer (some ⟨g, 0, none⟩)] w (NxE S B k w0 g s (cmtsF l).1) := by
  go_enter Tryz.func57, Tryz.ntmps57
  refine wp_block ?_
  refine wp_loop_ghost (fun n a w => NxF g a ∧ NxK S B k w0 g s l n w) l.length ⟨⟨rfl, rfl, rfl⟩, l, r, st, lt, q, rfl, rfl, hT, h⟩ ?_
  rintro n ⟨t, d⟩ w1 ⟨⟨h1, h2, h3⟩, li, r1, st1, lt1, q1, hn, hc, hTi, hN⟩
  simp only at h1 h2 h3
  subst h1
  obtain ⟨f, rfl⟩ := open592 h2 h3
  refine wp_mono (nx_any hN hTi f) ?_
  intro e a' w' hq
  obtain ⟨hf, hq⟩ := hq
  rcases hq with ⟨rfl, n', hlt, li', r', st', lt', q', hl', hc', hT', hN'⟩ | ⟨rfl, hcm, r', lt', q', hN', hTok⟩
  · exact ⟨n', by omega, hf, li', r', st', lt', q', hl', hc'.trans hc, hT', hN'⟩
  · have e1 : (cmtsF l).1 = li := by rw [← hc, cmts_stop hcm]
    refine ⟨hf.1, .tuple #[], by simp [results, Tryz.results57, go_sem], rfl, r', lt', q', ?_, ?_⟩
    · rw [e1]; exact hN'
    · rw [e1]; exact hTok
end Go.Proofs.YtedckphklebndaaGreatDoor
/- The package's Tokenize: what stands in memory between its tokens (plain). Conditions: those of the lexer in memory. -/
namespace Go.Proofs.YtedckphklebndaaGreatDoor
open Go Go.RowKit
theorem info60 : (Tryz.prog.info? 60).map (fun i => (i.zero, i.size, i.bytes)) = some (some (.agg #[.int .i32 0, .int .i32 0, .int .u16 0, .int .u8 0, .int .u8 0]), 5, 12) := by kernel_rfl
theorem toks_wsF (m : List Int) : (toks m).2 = false → (toks (wsF m)).2 = false := toks_ws m
theorem toks_endF {l : List Int} (h : (toks l).2 = false) (hne : (cmtsF l).1 ≠ []) : (toks (endF (cmtsF l).1)).2 = false := toks_end h hne
section
variable {S : Nat → Prop} {B : Nat} {k : LK} {w0 w w1 : World} {g : Nat} {s : ByteArray} {r : Nat → Value} {st : Nat} {l lt : List Int} {q : Nat}
theorem LQ.core (h : LQ S B k w0 w g s r st l lt q) : LQ (fun _ => True) B k w w g s r st l lt q := by
  obtain ⟨v, hl, _⟩ := h.log
  obtain ⟨n1, x1, o1, m1, _⟩ := h.all
  obtain ⟨n2, x2, o2, m2, _, sc2⟩ := h.leg
  exact ⟨h.la, Keep.refl _ _, fun _ _ => trivial, trivial, h.hB, h.lo, h.tr, h.c0, h.c1, ⟨v, hl, trivial, trivial, trivial, fun _ _ => trivial⟩, ⟨n1, x1, o1, m1, fun _ _ => trivial⟩, ⟨n2, x2, o2, m2, fun _ _ => trivial, sc2⟩⟩
theorem NQ.core (h : NQ S B k w0 w g s r st l lt q) : NQ (fun _ => True) B k w w g s r st l lt q := ⟨h.lq.core, h.hq, h.hs, h.i34⟩
/-- Another row grows. -/
theorem LQ.other (h : LQ (fun _ => True) B k w w g s r st l lt q) {T sz n : Nat} {v : Value} {xs : List Value} (ho : w.ownsRow B T sz v n xs) (hT : T ≠ 120 ∧ T ≠ 106 ∧ T ≠ 77 ∧ T ≠ 4 ∧ T ≠ 100 ∧ T ≠ 113 ∧ T ≠ 50)
    (hd : ∀ j, v.ownBlock = some j → (r 18).ownBlock ≠ some j) (hk : Keep (fun j => v.ownBlock = some j) w w1) : LQ (fun _ => True) B k w1 w1 g s r st l lt q := by
  obtain ⟨nl, z0, z1, hL⟩ := h.la.lx
  obtain ⟨v', hl, _⟩ := h.log
  obtain ⟨n1, x1, o1, m1, _⟩ := h.all
  obtain ⟨n2, x2, o2, m2, _, sc2⟩ := h.leg
  obtain ⟨b, hhe⟩ := hl.hhe
  obtain ⟨nm, xm, om, mm⟩ := hl.own
  obtain ⟨q0, _, _, _⟩ := h.lo
  have hbig := h.la.big
  have hlt := ho.lt
  obtain ⟨t1, t2, t3, t4, t5, t6, t7⟩ := hT
  have hL1 := hk.blk hL (own_ne ho hL t1)
  refine ⟨⟨⟨nl, z0, z1, hL1⟩, h.la.sfx, Keep.refl _ _, h.la.size, tabs_keep h.la.tabs hk (fun e => by have := (hlt 0 e).1; omega) (fun e => by have := (hlt 1 e).1; omega), h.la.big, h.la.from_⟩, Keep.refl _ _, fun _ _ => trivial, trivial, Nat.le_trans h.hB hk.size, h.lo, h.tr, h.c0, h.c1, ?_, ?_, ?_⟩
  · exact ⟨v', hl.keep hk (own_ne ho hl.hkd t3) (own_ne ho hl.hmu t2) (own_ne ho hhe t4) (own_ne ho hl.hms t5) (fun j e1 e2 => own_own_ne ho om t6 e2 e1), trivial, trivial, trivial, fun _ _ => trivial⟩
  · exact ⟨n1, x1, hk.own o1 (fun j e1 e2 => own_own_ne ho o1 t7 e2 e1), m1, fun _ _ => trivial⟩
  · exact ⟨n2, x2, hk.own o2 (fun j e1 e2 => hd j e2 e1), m2, fun _ _ => trivial, sc2⟩
end
/-- What the lexer may turn: what lies behind a base, but the rows of tokens and of legal comments. -/
def SS (W T : Nat) (v8 v9 : Value) (j : Nat) : Prop := W ≤ j ∧ j ≠ T ∧ v8.ownBlock ≠ some j ∧ v9.ownBlock ≠ some j
def res54 : Array Value := #[.slice none 0 0, .slice none 0 0, .slice none 0 0, .string ⟨#[]⟩, .int .i32 0, .int .i32 0, .int .i32 0]
structure TS (W T : Nat) (k : LK) (w : World) (g : Nat) (s : ByteArray) (r : Nat → Value) (st : Nat) (l lt : List Int) (q : Nat) (v8 v9 : Value) (x8 x9 : List Value) (n8 n9 : Nat) : Prop where
  nq : NQ (fun _ => True) W k w w g s r st l lt q
  r8 : w.ownsRow W 60 5 v8 n8 x8
  r9 : w.ownsRow W 122 3 v9 n9 x9
  dis : ∀ j, v9.ownBlock = some j → (r 18).ownBlock ≠ some j
  hW : W ≤ g ∧ W ≤ k.mu ∧ W ≤ k.he ∧ W ≤ k.ms
  rc : w.heap[T]? = some (.cells res54 54 (0, 0))
section
variable {W T : Nat} {k : LK} {w w1 : World} {g : Nat} {s : ByteArray} {r r1 : Nat → Value} {st st1 : Nat} {l l1 lt lt1 : List Int} {q q1 : Nat} {v8 v9 v' : Value} {x8 x9 x' : List Value} {n8 n9 n' : Nat}
theorem TS.to (h : TS W T k w g s r st l lt q v8 v9 x8 x9 n8 n9) : NQ (SS W T v8 v9) W k w w g s r st l lt q := by
  obtain ⟨hQ, h1, h2, h3⟩ := h.nq
  obtain ⟨nl, z0, z1, hL⟩ := hQ.la.lx
  obtain ⟨v, hl, _⟩ := hQ.log
  obtain ⟨n1, y1, o1, m1, _⟩ := hQ.all
  obtain ⟨n2, y2, o2, m2, _, sc2⟩ := hQ.leg
  obtain ⟨b, hhe⟩ := hl.hhe
  obtain ⟨nm, xm, om, mm⟩ := hl.own
  obtain ⟨a1, a2, a3, a4⟩ := h.hW
  have hB := hQ.hB
  have key : ∀ (j : Nat) (cs : Array Value) (t : TypeId) (fr : Nat × Nat), w.heap[j]? = some (.cells cs t fr) → W ≤ j → t ≠ 60 → t ≠ 122 → t ≠ 54 → SS W T v8 v9 j := fun j cs t fr e e1 e2 e3 e4 =>
    ⟨e1, blk_ne e h.rc e4, own_ne h.r8 e (Ne.symm e2), own_ne h.r9 e (Ne.symm e3)⟩
  refine ⟨⟨hQ.la, Keep.refl _ _, ?_, key g _ _ _ hL a1 (by decide) (by decide) (by decide), hB, hQ.lo, hQ.tr, hQ.c0, hQ.c1, ?_, ?_, ?_⟩, h1, h2, h3⟩
  · intro j hj
    have hT := lt_of_blk h.rc
    refine ⟨by omega, by omega, fun e => ?_, fun e => ?_⟩
    · have := (h.r8.lt j e).2; omega
    · have := (h.r9.lt j e).2; omega
  · exact ⟨v, hl, key _ _ _ _ hl.hmu a2 (by decide) (by decide) (by decide), key _ _ _ _ hhe a3 (by decide) (by decide) (by decide), key _ _ _ _ hl.hms a4 (by decide) (by decide) (by decide),
      fun j e => ⟨(om.lt j e).1, fun e3 => own_ne om h.rc (by decide) (by rw [e, e3]), own_own_ne om h.r8 (by decide) e, own_own_ne om h.r9 (by decide) e⟩⟩
  · exact ⟨n1, y1, o1, m1, fun j e => ⟨(o1.lt j e).1, fun e3 => own_ne o1 h.rc (by decide) (by rw [e, e3]), own_own_ne o1 h.r8 (by decide) e, own_own_ne o1 h.r9 (by decide) e⟩⟩
  · exact ⟨n2, y2, o2, m2, fun j e => ⟨(o2.lt j e).1, fun e3 => own_ne o2 h.rc (by decide) (by rw [e, e3]), own_own_ne o2 h.r8 (by decide) e, fun e2 => h.dis j e2 e⟩, sc2⟩
theorem TS.after (h : TS W T k w g s r st l lt q v8 v9 x8 x9 n8 n9) (hN : NQ (SS W T v8 v9) W k w w1 g s r1 st1 l1 lt1 q1) : TS W T k w1 g s r1 st1 l1 lt1 q1 v8 v9 x8 x9 n8 n9 ∧ Below W w w1 := by
  obtain ⟨n2, y2, o2, m2, t2⟩ := hN.lq.leg
  exact ⟨⟨hN.core, hN.lq.kp.own h.r8 (fun j e hs => hs.2.2.1 e), hN.lq.kp.own h.r9 (fun j e hs => hs.2.2.2 e), fun j e e2 => (t2.1 j e2).2.2.2 e, h.hW, hN.lq.kp.blk h.rc (fun hs => hs.2.1 rfl)⟩, hN.lq.kp.below h.nq.lq.hB (fun j _ hs => hs.1)⟩
theorem TS.keep (h : TS W T k w g s r st l lt q v8 v9 x8 x9 n8 n9) (a : KeepA w w1) : TS W T k w1 g s r st l lt q v8 v9 x8 x9 n8 n9 :=
  ⟨⟨(h.nq.lq.keepA a).core, h.nq.hq, h.nq.hs, h.nq.i34⟩, a.own h.r8 (fun _ _ e => e), a.own h.r9 (fun _ _ e => e), h.dis, h.hW, a.blk h.rc (fun e => e)⟩
theorem TS.grow8 (h : TS W T k w g s r st l lt q v8 v9 x8 x9 n8 n9) (hg : w.grownBy w1 v8.ownBlock) (ho : w1.ownsRow W 60 5 v' n' x') : TS W T k w1 g s r st l lt q v' v9 x' x9 n' n9 := by
  have hk : Keep (fun j => v8.ownBlock = some j) w w1 := Keep.of_grown hg _ (fun j e => e)
  obtain ⟨n2, y2, o2, m2, _⟩ := h.nq.lq.leg
  exact ⟨⟨h.nq.lq.other h.r8 (by decide) (fun j e => own_own_ne h.r8 o2 (by decide) e) hk, h.nq.hq, h.nq.hs, h.nq.i34⟩, ho, hk.own h.r9 (fun j e1 e2 => own_own_ne h.r8 h.r9 (by decide) e2 e1), h.dis, h.hW, hk.blk h.rc (own_ne h.r8 h.rc (by decide))⟩
theorem TS.grow9 (h : TS W T k w g s r st l lt q v8 v9 x8 x9 n8 n9) (hg : w.grownBy w1 v9.ownBlock) (ho : w1.ownsRow W 122 3 v' n' x') (hat : ∀ j, v'.ownBlock = some j → v9.ownBlock = some j ∨ w.heap.size ≤ j) : TS W T k w1 g s r st l lt q v8 v' x8 x' n8 n' := by
  have hk : Keep (fun j => v9.ownBlock = some j) w w1 := Keep.of_grown hg _ (fun j e => e)
  obtain ⟨n2, y2, o2, m2, _⟩ := h.nq.lq.leg
  refine ⟨⟨h.nq.lq.other h.r9 (by decide) h.dis hk, h.nq.hq, h.nq.hs, h.nq.i34⟩, hk.own h.r8 (fun j e1 e2 => own_own_ne h.r8 h.r9 (by decide) e1 e2), ho, ?_, h.hW, hk.blk h.rc (own_ne h.r9 h.rc (by decide))⟩
  intro j e e2
  rcases hat j e with e3 | e3
  · exact h.dis j e3 e2
  · have := (o2.lt j e2).2; omega
theorem TS.nil18 (h : TS W T k w g s r st l lt q v8 v9 x8 x9 n8 n9) : TS W T k (w.setCell ⟨g, 18, none⟩ (.slice none 0 0)) g s (up r 18 (.slice none 0 0)) st l lt q v8 v9 x8 x9 n8 n9 := by
  have hQ := h.nq.lq.row18 (Keep.refl _ _) (World.ownsRow_nil _ _ _ _) (Nat.zero_le q) (Nat.le_refl q) (fun j e => by cases e) (fun _ e => by cases e)
  obtain ⟨nl, z0, z1, hL⟩ := h.nq.lq.la.lx
  have hk : KeepB g w (w.setCell ⟨g, 18, none⟩ (.slice none 0 0)) := (Keep.refl (fun j => j = g) w).setCell (fun _ => rfl) _
  obtain ⟨x, hx⟩ := h.nq.i34
  exact ⟨⟨hQ.core, h.nq.hq, h.nq.hs, x, by rw [up_other (by decide)]; exact hx⟩, hk.own h.r8 (fun j e1 e2 => own_ne h.r8 hL (by decide) (by rw [e1, e2])), hk.own h.r9 (fun j e1 e2 => own_ne h.r9 hL (by decide) (by rw [e1, e2])), fun j _ e => (by rw [up_same] at e; cases e), h.hW, hk.blk h.rc (blk_ne h.rc hL (by decide))⟩
end
/-- The loop of Tokenize. -/
def TL (W T : Nat) (k : LK) (w0 : World) (g : Nat) (s : ByteArray) (l : List Int) (n : Nat) (a b : Value) (w : World) : Prop :=
  ∃ (l' : List Int) (r : Nat → Value) (lt : List Int) (q : Nat) (dn : List ((Tok × List Int × List Int) × Int)) (x9 : List Value) (n9 : Nat), n = l'.length ∧ TS W T k w g s r (ps s (cmtsF l').1) (endF (cmtsF l').1) lt q a b (dn.flatMap (lxC s)) x9 dn.length n9 ∧ TokC r (nextF (cmtsF l').1).1 ∧ (∀ p ∈ dn, FL p) ∧ dn.map Prod.fst ++ ptoks l' = ptoks l ∧ (toks l').2 = false ∧ n9 ≤ dn.length * 524288 ∧ dn.length + l'.length ≤ l.length ∧ Below W w0 w
theorem TL.end_ {l' : List Int} (h : (cmtsF l').1 = []) (dn : List ((Tok × List Int × List Int) × Int)) {l : List Int} (e : dn.map Prod.fst ++ ptoks l' = ptoks l) : dn.map Prod.fst = ptoks l := by
  rw [ptoks_nil h, List.append_nil] at e; exact e
end Go.Proofs.YtedckphklebndaaGreatDoor
/- The package's Tokenize, walked. Conditions: a plain text of at most 2^19 bytes that is not left open; a new log; the tables of unicode/utf8 lie in blocks 0 and 1. -/
namespace Go.Proofs.YtedckphklebndaaGreatDoor
open Go Go.RowKit
set_option maxRecDepth 100000 in
set_option maxHeartbeats 2000000 in
theorem MakeTracker_calls (X0 X1 X2 X3 X4 X5 X6 X7 : ByteArray) (X : Nat) (w : World) (h : w.heap[X]? = some (.cells #[.string X0, .string X1, .string X2, .string X3, .string X4, .string X5, .string X6, .string X7, .int .u8 0, .int .u32 0] 88 (0, 0))) :
    Calls Tryz.prog 55 #[.pointer (some ⟨X, 0, none⟩)] w fun e w' => e = .returned (.agg #[.string X3, .string X0, .string X1, .int .i32 0, .int .i32 0, .int .i32 0, .int .i32 0, .bool true, .bool false, .bool true]) ∧ KeepA w w' := by
  have hlt := lt_of_blk h
  have e0 : w.cell? ⟨X, 0, none⟩ = some (.string X0) := (blk_cell h 0).trans rfl
  have e1 : w.cell? ⟨X, 1, none⟩ = some (.string X1) := (blk_cell h 1).trans rfl
  have e3 : w.cell? ⟨X, 3, none⟩ = some (.string X3) := (blk_cell h 3).trans rfl
  go_enter Tryz.func55, Tryz.ntmps55
  go_upto_region 3 with (fail)
  have d0 : (w.alloc (.cells #[.string ⟨#[]⟩, .string ⟨#[]⟩, .string ⟨#[]⟩, .int .i32 0, .int .i32 0, .int .i32 0, .int .i32 0, .bool false, .bool false, .bool false] 116)).cell? ⟨X, 0, none⟩ = some (.string X0) := (World.cell?_alloc_past _ _ _ hlt).trans e0
  have d1 : (w.alloc (.cells #[.string ⟨#[]⟩, .string ⟨#[]⟩, .string ⟨#[]⟩, .int .i32 0, .int .i32 0, .int .i32 0, .int .i32 0, .bool false, .bool false, .bool false] 116)).cell? ⟨X, 1, none⟩ = some (.string X1) := (World.cell?_alloc_past _ _ _ hlt).trans e1
  have d3 : (w.alloc (.cells #[.string ⟨#[]⟩, .string ⟨#[]⟩, .string ⟨#[]⟩, .int .i32 0, .int .i32 0, .int .i32 0, .int .i32 0, .bool false, .bool false, .bool false] 116)).cell? ⟨X, 3, none⟩ = some (.string X3) := (World.cell?_alloc_past _ _ _ hlt).trans e3
  go_region
  all_goals
    go_wp2_with fail
    have bF : (w.alloc (.cells #[.string X3, .string X0, .string X1, .int .i32 0, .int .i32 0, .int .i32 0, .int .i32 0, .bool true, .bool false, .bool true] 116)).heap[w.heap.size]? = some (.cells #[.string X3, .string X0, .string X1, .int .i32 0, .int .i32 0, .int .i32 0, .int .i32 0, .bool true, .bool false, .bool true] 116 (0, 0)) := alloc_at _ rfl
    have r0 : (w.alloc (.cells #[.string X3, .string X0, .string X1, .int .i32 0, .int .i32 0, .int .i32 0, .int .i32 0, .bool true, .bool false, .bool true] 116)).drew.cell? ⟨w.heap.size, 0, none⟩ = some (.string X3) := (blk_cell bF 0).trans rfl
    have r1 : (w.alloc (.cells #[.string X3, .string X0, .string X1, .int .i32 0, .int .i32 0, .int .i32 0, .int .i32 0, .bool true, .bool false, .bool true] 116)).drew.cell? ⟨w.heap.size, 1, none⟩ = some (.string X0) := (blk_cell bF 1).trans rfl
    have r2 : (w.alloc (.cells #[.string X3, .string X0, .string X1, .int .i32 0, .int .i32 0, .int .i32 0, .int .i32 0, .bool true, .bool false, .bool true] 116)).drew.cell? ⟨w.heap.size, 2, none⟩ = some (.string X1) := (blk_cell bF 2).trans rfl
    have r3 : (w.alloc (.cells #[.string X3, .string X0, .string X1, .int .i32 0, .int .i32 0, .int .i32 0, .int .i32 0, .bool true, .bool false, .bool true] 116)).drew.cell? ⟨w.heap.size, 3, none⟩ = some (.int .i32 0) := (blk_cell bF 3).trans rfl
    have r4 : (w.alloc (.cells #[.string X3, .string X0, .string X1, .int .i32 0, .int .i32 0, .int .i32 0, .int .i32 0, .bool true, .bool false, .bool true] 116)).drew.cell? ⟨w.heap.size, 4, none⟩ = some (.int .i32 0) := (blk_cell bF 4).trans rfl
    have r5 : (w.alloc (.cells #[.string X3, .string X0, .string X1, .int .i32 0, .int .i32 0, .int .i32 0, .int .i32 0, .bool true, .bool false, .bool true] 116)).drew.cell? ⟨w.heap.size, 5, none⟩ = some (.int .i32 0) := (blk_cell bF 5).trans rfl
    have r6 : (w.alloc (.cells #[.string X3, .string X0, .string X1, .int .i32 0, .int .i32 0, .int .i32 0, .int .i32 0, .bool true, .bool false, .bool true] 116)).drew.cell? ⟨w.heap.size, 6, none⟩ = some (.int .i32 0) := (blk_cell bF 6).trans rfl
    have r7 : (w.alloc (.cells #[.string X3, .string X0, .string X1, .int .i32 0, .int .i32 0, .int .i32 0, .int .i32 0, .bool true, .bool false, .bool true] 116)).drew.cell? ⟨w.heap.size, 7, none⟩ = some (.bool true) := (blk_cell bF 7).trans rfl
    have r8 : (w.alloc (.cells #[.string X3, .string X0, .string X1, .int .i32 0, .int .i32 0, .int .i32 0, .int .i32 0, .bool true, .bool false, .bool true] 116)).drew.cell? ⟨w.heap.size, 8, none⟩ = some (.bool false) := (blk_cell bF 8).trans rfl
    have r9 : (w.alloc (.cells #[.string X3, .string X0, .string X1, .int .i32 0, .int .i32 0, .int .i32 0, .int .i32 0, .bool true, .bool false, .bool true] 116)).drew.cell? ⟨w.heap.size, 9, none⟩ = some (.bool true) := (blk_cell bF 9).trans rfl
    refine bodyPost_ret (v := .agg #[.string X3, .string X0, .string X1, .int .i32 0, .int .i32 0, .int .i32 0, .int .i32 0, .bool true, .bool false, .bool true]) (by simp [results, Tryz.results55, go_sem, r0, r1, r2, r3, r4, r5, r6, r7, r8, r9]) rfl ⟨rfl, ((Keep.refl _ _).alloc _).drew⟩
theorem farH {w : World} {j : Nat} {b : Addr} {u : Value} {o : Obj} (h : w.heap[j]? = some o) (hn : j ≠ b.block) : (w.setCell b u).heap[j]? = some o :=
  ((Keep.refl (fun k => k = b.block) w).setCell (fun _ => rfl) u).blk h hn
theorem far {w : World} {a b : Addr} {u v : Value} (h : w.cell? a = some v) (hn : a.block ≠ b.block) : (w.setCell b u).cell? a = some v :=
  ((Keep.refl (fun k => k = b.block) w).setCell (fun _ => rfl) u).cell h hn
noncomputable def tkR1 : Code := (((Tryz.f32.body.map regions).getD [])[1]?).getD .skip
/-- What the region that lays the lexer leaves. -/
def TkQ (H : Nat) (wb : World) (F0 F1 F2 F3 : Fn) (A0 A1 A2 A3 : Array Value) (X0 X1 X2 X3 X4 X5 X6 X7 : ByteArray) (e : Exit) (a : Act) (w : World) : Prop :=
  e = .normal ∧ ∃ (g : Nat) (f : Nat → Value), a = ⟨#[.agg #[.func F0 #[] A0, .func F1 #[] A1, .func F2 #[] A2, .func F3 #[] A3, .int .i8 3, .map none], .agg #[.string X0, .string X1, .string X2, .string X3, .string X4, .string X5, .string X6, .string X7, .int .u8 0, .int .u32 0], .agg #[.bool true], .pointer (some ⟨H, 0, none⟩), .pointer (some ⟨H + 1, 0, none⟩), .pointer (some ⟨H + 2, 0, none⟩), .pointer (some ⟨H + 3, 0, none⟩), .pointer (some ⟨g, 0, none⟩), undef, undef, undef, undef, undef, undef, f 14, f 15, f 16, f 17, f 18, undef, undef, undef, undef, undef, undef, undef, undef, undef, undef, undef, undef, undef, undef, undef, undef, undef, undef, undef, undef, undef, undef, undef, undef, undef, undef, undef, undef, undef, undef, undef, undef, undef, undef, undef, undef, undef, undef, undef, undef, undef, undef, undef, undef, undef, undef, undef, undef, undef, undef, undef, undef, undef, undef, undef, undef, undef, undef, undef, undef, undef, undef, undef, undef, undef, undef, undef], []⟩ ∧ H + 3 < g ∧ w.heap[g]? = some (.cells #[.bool true, .func F0 #[] A0, .func F1 #[] A1, .func F2 #[] A2, .func F3 #[] A3, .int .i8 3, .map none, .string X0, .string X1, .string X2, .string X3, .string X4, .string X5, .string X6, .string X7, .int .u8 0, .int .u32 0, .slice none 0 0, .slice none 0 0, .string ⟨#[]⟩, .int .i32 0, .int .i32 0, .string X3, .string X0, .string X1, .int .i32 0, .int .i32 0, .int .i32 0, .int .i32 0, .bool true, .bool false, .bool true, .int .i64 0, .int .i64 0, .int .i32 0, .int .i32 0, .int .i32 0, .int .i32 0, .int .u16 0, .int .u8 0, .int .u8 0] 120 (0, 0)) ∧ KeepA wb w
set_option maxRecDepth 100000 in
set_option maxHeartbeats 8000000 in
theorem tk_region (H : Nat) (wb : World) (F0 F1 F2 F3 : Fn) (A0 A1 A2 A3 : Array Value) (X0 X1 X2 X3 X4 X5 X6 X7 : ByteArray)
    (bL : wb.heap[H]? = some (.cells #[.func F0 #[] A0, .func F1 #[] A1, .func F2 #[] A2, .func F3 #[] A3, .int .i8 3, .map none] 75 (0, 0))) (bS : wb.heap[H + 1]? = some (.cells #[.string X0, .string X1, .string X2, .string X3, .string X4, .string X5, .string X6, .string X7, .int .u8 0, .int .u32 0] 88 (0, 0))) (bO : wb.heap[H + 2]? = some (.cells #[.bool true] 90 (0, 0))) (hHb : H + 4 ≤ wb.heap.size) :
    Code.wp Tryz.prog tkR1 (TkQ H wb F0 F1 F2 F3 A0 A1 A2 A3 X0 X1 X2 X3 X4 X5 X6 X7) ⟨#[.agg #[.func F0 #[] A0, .func F1 #[] A1, .func F2 #[] A2, .func F3 #[] A3, .int .i8 3, .map none], .agg #[.string X0, .string X1, .string X2, .string X3, .string X4, .string X5, .string X6, .string X7, .int .u8 0, .int .u32 0], .agg #[.bool true], .pointer (some ⟨H, 0, none⟩), .pointer (some ⟨H + 1, 0, none⟩), .pointer (some ⟨H + 2, 0, none⟩), .pointer (some ⟨H + 3, 0, none⟩), undef, undef, undef, undef, undef, undef, undef, undef, undef, undef, undef, undef, undef, undef, undef, undef, undef, undef, undef, undef, undef, undef, undef, undef, undef, undef, undef, undef, undef, undef, undef, undef, undef, undef, undef, undef, undef, undef, undef, undef, undef, undef, undef, undef, undef, undef, undef, undef, undef, undef, undef, undef, undef, undef, undef, undef, undef, undef, undef, undef, undef, undef, undef, undef, undef, undef, undef, undef, undef, undef, undef, undef, undef, undef, undef, undef, undef, undef, undef], []⟩ wb := by
  conv => arg 2; whnf
  have hn0 : H ≠ wb.heap.size := by omega
  have hn1 : H + 1 ≠ wb.heap.size := by omega
  have hn2 : H + 2 ≠ wb.heap.size := by omega
  have z0 : ∀ wz : World, wz.heap[H]? = some (.cells #[.func F0 #[] A0, .func F1 #[] A1, .func F2 #[] A2, .func F3 #[] A3, .int .i8 3, .map none] 75 (0, 0)) → wz.cell? ⟨H, 0, none⟩ = some (.func F0 #[] A0) := fun wz e => (blk_cell e 0).trans rfl
  have z1 : ∀ wz : World, wz.heap[H]? = some (.cells #[.func F0 #[] A0, .func F1 #[] A1, .func F2 #[] A2, .func F3 #[] A3, .int .i8 3, .map none] 75 (0, 0)) → wz.cell? ⟨H, 1, none⟩ = some (.func F1 #[] A1) := fun wz e => (blk_cell e 1).trans rfl
  have z2 : ∀ wz : World, wz.heap[H]? = some (.cells #[.func F0 #[] A0, .func F1 #[] A1, .func F2 #[] A2, .func F3 #[] A3, .int .i8 3, .map none] 75 (0, 0)) → wz.cell? ⟨H, 2, none⟩ = some (.func F2 #[] A2) := fun wz e => (blk_cell e 2).trans rfl
  have z3 : ∀ wz : World, wz.heap[H]? = some (.cells #[.func F0 #[] A0, .func F1 #[] A1, .func F2 #[] A2, .func F3 #[] A3, .int .i8 3, .map none] 75 (0, 0)) → wz.cell? ⟨H, 3, none⟩ = some (.func F3 #[] A3) := fun wz e => (blk_cell e 3).trans rfl
  have z4 : ∀ wz : World, wz.heap[H]? = some (.cells #[.func F0 #[] A0, .func F1 #[] A1, .func F2 #[] A2, .func F3 #[] A3, .int .i8 3, .map none] 75 (0, 0)) → wz.cell? ⟨H, 4, none⟩ = some (.int .i8 3) := fun wz e => (blk_cell e 4).trans rfl
  have z5 : ∀ wz : World, wz.heap[H]? = some (.cells #[.func F0 #[] A0, .func F1 #[] A1, .func F2 #[] A2, .func F3 #[] A3, .int .i8 3, .map none] 75 (0, 0)) → wz.cell? ⟨H, 5, none⟩ = some (.map none) := fun wz e => (blk_cell e 5).trans rfl
  have z6 : ∀ wz : World, wz.heap[H + 1]? = some (.cells #[.string X0, .string X1, .string X2, .string X3, .string X4, .string X5, .string X6, .string X7, .int .u8 0, .int .u32 0] 88 (0, 0)) → wz.cell? ⟨(H + 1), 0, none⟩ = some (.string X0) := fun wz e => (blk_cell e 0).trans rfl
  have z7 : ∀ wz : World, wz.heap[H + 1]? = some (.cells #[.string X0, .string X1, .string X2, .string X3, .string X4, .string X5, .string X6, .string X7, .int .u8 0, .int .u32 0] 88 (0, 0)) → wz.cell? ⟨(H + 1), 1, none⟩ = some (.string X1) := fun wz e => (blk_cell e 1).trans rfl
  have z8 : ∀ wz : World, wz.heap[H + 1]? = some (.cells #[.string X0, .string X1, .string X2, .string X3, .string X4, .string X5, .string X6, .string X7, .int .u8 0, .int .u32 0] 88 (0, 0)) → wz.cell? ⟨(H + 1), 2, none⟩ = some (.string X2) := fun wz e => (blk_cell e 2).trans rfl
  have z9 : ∀ wz : World, wz.heap[H + 1]? = some (.cells #[.string X0, .string X1, .string X2, .string X3, .string X4, .string X5, .string X6, .string X7, .int .u8 0, .int .u32 0] 88 (0, 0)) → wz.cell? ⟨(H + 1), 3, none⟩ = some (.string X3) := fun wz e => (blk_cell e 3).trans rfl
  have z10 : ∀ wz : World, wz.heap[H + 1]? = some (.cells #[.string X0, .string X1, .string X2, .string X3, .string X4, .string X5, .string X6, .string X7, .int .u8 0, .int .u32 0] 88 (0, 0)) → wz.cell? ⟨(H + 1), 4, none⟩ = some (.string X4) := fun wz e => (blk_cell e 4).trans rfl
  have z11 : ∀ wz : World, wz.heap[H + 1]? = some (.cells #[.string X0, .string X1, .string X2, .string X3, .string X4, .string X5, .string X6, .string X7, .int .u8 0, .int .u32 0] 88 (0, 0)) → wz.cell? ⟨(H + 1), 5, none⟩ = some (.string X5) := fun wz e => (blk_cell e 5).trans rfl
  have z12 : ∀ wz : World, wz.heap[H + 1]? = some (.cells #[.string X0, .string X1, .string X2, .string X3, .string X4, .string X5, .string X6, .string X7, .int .u8 0, .int .u32 0] 88 (0, 0)) → wz.cell? ⟨(H + 1), 6, none⟩ = some (.string X6) := fun wz e => (blk_cell e 6).trans rfl
  have z13 : ∀ wz : World, wz.heap[H + 1]? = some (.cells #[.string X0, .string X1, .string X2, .string X3, .string X4, .string X5, .string X6, .string X7, .int .u8 0, .int .u32 0] 88 (0, 0)) → wz.cell? ⟨(H + 1), 7, none⟩ = some (.string X7) := fun wz e => (blk_cell e 7).trans rfl
  have z14 : ∀ wz : World, wz.heap[H + 1]? = some (.cells #[.string X0, .string X1, .string X2, .string X3, .string X4, .string X5, .string X6, .string X7, .int .u8 0, .int .u32 0] 88 (0, 0)) → wz.cell? ⟨(H + 1), 8, none⟩ = some (.int .u8 0) := fun wz e => (blk_cell e 8).trans rfl
  have z15 : ∀ wz : World, wz.heap[H + 1]? = some (.cells #[.string X0, .string X1, .string X2, .string X3, .string X4, .string X5, .string X6, .string X7, .int .u8 0, .int .u32 0] 88 (0, 0)) → wz.cell? ⟨(H + 1), 9, none⟩ = some (.int .u32 0) := fun wz e => (blk_cell e 9).trans rfl
  have z16 : ∀ wz : World, wz.heap[H + 2]? = some (.cells #[.bool true] 90 (0, 0)) → wz.cell? ⟨(H + 2), 0, none⟩ = some (.bool true) := fun wz e => (blk_cell e 0).trans rfl
  have hS0 : wb.drew.heap[H]? = some (.cells #[.func F0 #[] A0, .func F1 #[] A1, .func F2 #[] A2, .func F3 #[] A3, .int .i8 3, .map none] 75 (0, 0)) ∧ wb.drew.heap[H + 1]? = some (.cells #[.string X0, .string X1, .string X2, .string X3, .string X4, .string X5, .string X6, .string X7, .int .u8 0, .int .u32 0] 88 (0, 0)) ∧ wb.drew.heap[H + 2]? = some (.cells #[.bool true] 90 (0, 0)) := ⟨bL, bS, bO⟩
  have hSK : ∀ wz, KeepA wb wz → wz.heap[H]? = some (.cells #[.func F0 #[] A0, .func F1 #[] A1, .func F2 #[] A2, .func F3 #[] A3, .int .i8 3, .map none] 75 (0, 0)) ∧ wz.heap[H + 1]? = some (.cells #[.string X0, .string X1, .string X2, .string X3, .string X4, .string X5, .string X6, .string X7, .int .u8 0, .int .u32 0] 88 (0, 0)) ∧ wz.heap[H + 2]? = some (.cells #[.bool true] 90 (0, 0)) := fun wz k => ⟨k.blk bL (fun x => x), k.blk bS (fun x => x), k.blk bO (fun x => x)⟩
  refine wp_region_held (S := fun w' => w'.heap[H]? = some (.cells #[.func F0 #[] A0, .func F1 #[] A1, .func F2 #[] A2, .func F3 #[] A3, .int .i8 3, .map none] 75 (0, 0)) ∧ w'.heap[H + 1]? = some (.cells #[.string X0, .string X1, .string X2, .string X3, .string X4, .string X5, .string X6, .string X7, .int .u8 0, .int .u32 0] 88 (0, 0)) ∧ w'.heap[H + 2]? = some (.cells #[.bool true] 90 (0, 0))) (by kernel_rfl) ?_
  refine wpAnyH_take (i := 0) (oi := _) (v := .agg #[.bool true]) rfl (by kernel_rfl) (by kernel_rfl) (by kernel_rfl) (fun c a w h => by obtain ⟨h, _⟩ := h; cases h) (.inl ⟨by rfl, ?_⟩) hS0 ?_
  · intro w' hw'
    obtain ⟨s1, s2, s3⟩ := hw'
    go_simp
  refine wpAnyH_take (i := 1) (oi := _) (v := .agg #[.func F0 #[] A0, .func F1 #[] A1, .func F2 #[] A2, .func F3 #[] A3, .int .i8 3, .map none]) rfl (by kernel_rfl) (by kernel_rfl) (by kernel_rfl) (fun c a w h => by obtain ⟨h, _⟩ := h; cases h) (.inl ⟨by rfl, ?_⟩) hS0 ?_
  · intro w' hw'
    obtain ⟨s1, s2, s3⟩ := hw'
    go_simp
  refine wpAnyH_take (i := 2) (oi := _) (v := .agg #[.string X0, .string X1, .string X2, .string X3, .string X4, .string X5, .string X6, .string X7, .int .u8 0, .int .u32 0]) rfl (by kernel_rfl) (by kernel_rfl) (by kernel_rfl) (fun c a w h => by obtain ⟨h, _⟩ := h; cases h) (.inl ⟨by rfl, ?_⟩) hS0 ?_
  · intro w' hw'
    obtain ⟨s1, s2, s3⟩ := hw'
    go_simp
  simp only [Act.put, List.setIfInBounds_toArray]
  refine wpAnyH_all (rs := [3, 5]) (by kernel_rfl) (by decide) ?_
  intro i hi
  have hQx : ∀ (d : Option Nat) (v : Value) c a w, TkQ H wb F0 F1 F2 F3 A0 A1 A2 A3 X0 X1 X2 X3 X4 X5 X6 X7 (.panic c) (Act.put a d v) w → TkQ H wb F0 F1 F2 F3 A0 A1 A2 A3 X0 X1 X2 X3 X4 X5 X6 X7 (.panic c) a w := fun d v c a w h => by obtain ⟨h, _⟩ := h; cases h
  rcases List.mem_cons.1 hi with rfl | hi
  · -- the call first
    refine wpOp_step (o := _) rfl (fun K1 hK1 => ?_)
    rw [if_pos (by rfl)]
    go_simp
    go_at_call 55
    refine (MakeTracker_calls _ _ _ _ _ _ _ _ (H + 1) _ hS0.2.1).mono ?_
    rintro e w2 ⟨rfl, hK2⟩
    have hKb2 : KeepA wb w2 := ((Keep.refl (fun _ => False) wb).drew).trans hK2
    refine hK1 _ _ ⟨hSK _ hKb2, ?_⟩
    refine wpAnyH_take (i := 4) (oi := _) (v := .agg #[.bool true, .func F0 #[] A0, .func F1 #[] A1, .func F2 #[] A2, .func F3 #[] A3, .int .i8 3, .map none, .string X0, .string X1, .string X2, .string X3, .string X4, .string X5, .string X6, .string X7, .int .u8 0, .int .u32 0, .slice none 0 0, .slice none 0 0, .string ⟨#[]⟩, .int .i32 0, .int .i32 0, .string X3, .string X0, .string X1, .int .i32 0, .int .i32 0, .int .i32 0, .int .i32 0, .bool true, .bool false, .bool true, .int .i64 0, .int .i64 0, .int .i32 0, .int .i32 0, .int .i32 0, .int .i32 0, .int .u16 0, .int .u8 0, .int .u8 0]) rfl (by kernel_rfl) (by kernel_rfl) (by kernel_rfl) (hQx _ _) (.inl ⟨by rfl, fun w' _ => by kernel_rfl⟩) (hSK _ hKb2) ?_
    simp only [Act.put, List.setIfInBounds_toArray]
    refine wpAnyH_all (rs := [5]) (by kernel_rfl) (by decide) ?_
    intro i hi
    obtain rfl := List.mem_singleton.1 hi
    refine wpOp_step (o := _) rfl (fun K2 hK2' => ?_)
    rw [if_pos (by rfl)]
    go_simp
    have hKb3 : KeepA wb (w2.alloc (.cells #[.bool false, .nilFunc, .nilFunc, .nilFunc, .nilFunc, .int .i8 0, .map none, .string ⟨#[]⟩, .string ⟨#[]⟩, .string ⟨#[]⟩, .string ⟨#[]⟩, .string ⟨#[]⟩, .string ⟨#[]⟩, .string ⟨#[]⟩, .string ⟨#[]⟩, .int .u8 0, .int .u32 0, .slice none 0 0, .slice none 0 0, .string ⟨#[]⟩, .int .i32 0, .int .i32 0, .string ⟨#[]⟩, .string ⟨#[]⟩, .string ⟨#[]⟩, .int .i32 0, .int .i32 0, .int .i32 0, .int .i32 0, .bool false, .bool false, .bool false, .int .i64 0, .int .i64 0, .int .i32 0, .int .i32 0, .int .i32 0, .int .i32 0, .int .u16 0, .int .u8 0, .int .u8 0] 120)) := hKb2.alloc _
    refine hK2' _ _ ⟨hSK _ hKb3, ?_⟩
    have hG : (w2.alloc (.cells #[.bool false, .nilFunc, .nilFunc, .nilFunc, .nilFunc, .int .i8 0, .map none, .string ⟨#[]⟩, .string ⟨#[]⟩, .string ⟨#[]⟩, .string ⟨#[]⟩, .string ⟨#[]⟩, .string ⟨#[]⟩, .string ⟨#[]⟩, .string ⟨#[]⟩, .int .u8 0, .int .u32 0, .slice none 0 0, .slice none 0 0, .string ⟨#[]⟩, .int .i32 0, .int .i32 0, .string ⟨#[]⟩, .string ⟨#[]⟩, .string ⟨#[]⟩, .int .i32 0, .int .i32 0, .int .i32 0, .int .i32 0, .bool false, .bool false, .bool false, .int .i64 0, .int .i64 0, .int .i32 0, .int .i32 0, .int .i32 0, .int .i32 0, .int .u16 0, .int .u8 0, .int .u8 0] 120)).heap[w2.heap.size]? = some (.cells #[.bool false, .nilFunc, .nilFunc, .nilFunc, .nilFunc, .int .i8 0, .map none, .string ⟨#[]⟩, .string ⟨#[]⟩, .string ⟨#[]⟩, .string ⟨#[]⟩, .string ⟨#[]⟩, .string ⟨#[]⟩, .string ⟨#[]⟩, .string ⟨#[]⟩, .int .u8 0, .int .u32 0, .slice none 0 0, .slice none 0 0, .string ⟨#[]⟩, .int .i32 0, .int .i32 0, .string ⟨#[]⟩, .string ⟨#[]⟩, .string ⟨#[]⟩, .int .i32 0, .int .i32 0, .int .i32 0, .int .i32 0, .bool false, .bool false, .bool false, .int .i64 0, .int .i64 0, .int .i32 0, .int .i32 0, .int .i32 0, .int .i32 0, .int .u16 0, .int .u8 0, .int .u8 0] 120 (0, 0)) := heap_alloc_new w2 _
    have hgs : H + 3 < w2.heap.size := by have := hKb2.size; omega
    refine wpAnyH_all (rs := [6]) (by kernel_rfl) (by decide) ?_
    intro i hi
    obtain rfl := List.mem_singleton.1 hi
    refine wpOp_step (o := _) rfl (fun K3 hK3 => ?_)
    rw [if_pos (by rfl)]
    refine wp_store_row 120 _ _ rfl w2.heap.size #[.bool true, .func F0 #[] A0, .func F1 #[] A1, .func F2 #[] A2, .func F3 #[] A3, .int .i8 3, .map none, .string X0, .string X1, .string X2, .string X3, .string X4, .string X5, .string X6, .string X7, .int .u8 0, .int .u32 0, .slice none 0 0, .slice none 0 0, .string ⟨#[]⟩, .int .i32 0, .int .i32 0, .string X3, .string X0, .string X1, .int .i32 0, .int .i32 0, .int .i32 0, .int .i32 0, .bool true, .bool false, .bool true, .int .i64 0, .int .i64 0, .int .i32 0, .int .i32 0, .int .i32 0, .int .i32 0, .int .u16 0, .int .u8 0, .int .u8 0] rfl rfl 120 _ hG (by kernel_rfl) (by kernel_rfl) (by kernel_rfl) ?_
    have hg2 := setRow_heap _ w2.heap.size _ #[.bool true, .func F0 #[] A0, .func F1 #[] A1, .func F2 #[] A2, .func F3 #[] A3, .int .i8 3, .map none, .string X0, .string X1, .string X2, .string X3, .string X4, .string X5, .string X6, .string X7, .int .u8 0, .int .u32 0, .slice none 0 0, .slice none 0 0, .string ⟨#[]⟩, .int .i32 0, .int .i32 0, .string X3, .string X0, .string X1, .int .i32 0, .int .i32 0, .int .i32 0, .int .i32 0, .bool true, .bool false, .bool true, .int .i64 0, .int .i64 0, .int .i32 0, .int .i32 0, .int .i32 0, .int .i32 0, .int .u16 0, .int .u8 0, .int .u8 0] _ _ hG
    have hk2 : KeepA wb _ := (Keep.setRowN (g := w2.heap.size) hKb3 hKb2.size #[.bool true, .func F0 #[] A0, .func F1 #[] A1, .func F2 #[] A2, .func F3 #[] A3, .int .i8 3, .map none, .string X0, .string X1, .string X2, .string X3, .string X4, .string X5, .string X6, .string X7, .int .u8 0, .int .u32 0, .slice none 0 0, .slice none 0 0, .string ⟨#[]⟩, .int .i32 0, .int .i32 0, .string X3, .string X0, .string X1, .int .i32 0, .int .i32 0, .int .i32 0, .int .i32 0, .bool true, .bool false, .bool true, .int .i64 0, .int .i64 0, .int .i32 0, .int .i32 0, .int .i32 0, .int .i32 0, .int .u16 0, .int .u8 0, .int .u8 0])
    refine hK3 _ _ ⟨hSK _ hk2, ?_⟩
    refine wpAnyH_done (by kernel_rfl) ?_ _
    exact ⟨rfl, w2.heap.size, fun j => if j = 14 then _ else if j = 15 then _ else if j = 16 then _ else if j = 17 then _ else _, rfl, hgs, hg2, hk2⟩
  · obtain rfl := List.mem_singleton.1 hi
    refine wpOp_step (o := _) rfl (fun K1 hK1 => ?_)
    rw [if_pos (by rfl)]
    go_simp
    have hKb1 : KeepA wb (wb.drew.alloc (.cells #[.bool false, .nilFunc, .nilFunc, .nilFunc, .nilFunc, .int .i8 0, .map none, .string ⟨#[]⟩, .string ⟨#[]⟩, .string ⟨#[]⟩, .string ⟨#[]⟩, .string ⟨#[]⟩, .string ⟨#[]⟩, .string ⟨#[]⟩, .string ⟨#[]⟩, .int .u8 0, .int .u32 0, .slice none 0 0, .slice none 0 0, .string ⟨#[]⟩, .int .i32 0, .int .i32 0, .string ⟨#[]⟩, .string ⟨#[]⟩, .string ⟨#[]⟩, .int .i32 0, .int .i32 0, .int .i32 0, .int .i32 0, .bool false, .bool false, .bool false, .int .i64 0, .int .i64 0, .int .i32 0, .int .i32 0, .int .i32 0, .int .i32 0, .int .u16 0, .int .u8 0, .int .u8 0] 120)) := ((Keep.refl (fun _ => False) wb).drew).alloc _
    refine hK1 _ _ ⟨hSK _ hKb1, ?_⟩
    have hG0 : (wb.drew.alloc (.cells #[.bool false, .nilFunc, .nilFunc, .nilFunc, .nilFunc, .int .i8 0, .map none, .string ⟨#[]⟩, .string ⟨#[]⟩, .string ⟨#[]⟩, .string ⟨#[]⟩, .string ⟨#[]⟩, .string ⟨#[]⟩, .string ⟨#[]⟩, .string ⟨#[]⟩, .int .u8 0, .int .u32 0, .slice none 0 0, .slice none 0 0, .string ⟨#[]⟩, .int .i32 0, .int .i32 0, .string ⟨#[]⟩, .string ⟨#[]⟩, .string ⟨#[]⟩, .int .i32 0, .int .i32 0, .int .i32 0, .int .i32 0, .bool false, .bool false, .bool false, .int .i64 0, .int .i64 0, .int .i32 0, .int .i32 0, .int .i32 0, .int .i32 0, .int .u16 0, .int .u8 0, .int .u8 0] 120)).heap[wb.heap.size]? = some (.cells #[.bool false, .nilFunc, .nilFunc, .nilFunc, .nilFunc, .int .i8 0, .map none, .string ⟨#[]⟩, .string ⟨#[]⟩, .string ⟨#[]⟩, .string ⟨#[]⟩, .string ⟨#[]⟩, .string ⟨#[]⟩, .string ⟨#[]⟩, .string ⟨#[]⟩, .int .u8 0, .int .u32 0, .slice none 0 0, .slice none 0 0, .string ⟨#[]⟩, .int .i32 0, .int .i32 0, .string ⟨#[]⟩, .string ⟨#[]⟩, .string ⟨#[]⟩, .int .i32 0, .int .i32 0, .int .i32 0, .int .i32 0, .bool false, .bool false, .bool false, .int .i64 0, .int .i64 0, .int .i32 0, .int .i32 0, .int .i32 0, .int .i32 0, .int .u16 0, .int .u8 0, .int .u8 0] 120 (0, 0)) := heap_alloc_new wb.drew _
    refine wpAnyH_all (rs := [3]) (by kernel_rfl) (by decide) ?_
    intro i hi
    obtain rfl := List.mem_singleton.1 hi
    refine wpOp_step (o := _) rfl (fun K2 hK2' => ?_)
    rw [if_pos (by rfl)]
    go_simp
    go_at_call 55
    refine (MakeTracker_calls _ _ _ _ _ _ _ _ (H + 1) _ (hSK _ hKb1).2.1).mono ?_
    rintro e w2 ⟨rfl, hK2⟩
    have hKb2 : KeepA wb w2 := hKb1.trans hK2
    have hG := hK2.blk hG0 (fun x => x)
    have hgs : H + 3 < wb.heap.size := by omega
    refine hK2' _ _ ⟨hSK _ hKb2, ?_⟩
    refine wpAnyH_take (i := 4) (oi := _) (v := .agg #[.bool true, .func F0 #[] A0, .func F1 #[] A1, .func F2 #[] A2, .func F3 #[] A3, .int .i8 3, .map none, .string X0, .string X1, .string X2, .string X3, .string X4, .string X5, .string X6, .string X7, .int .u8 0, .int .u32 0, .slice none 0 0, .slice none 0 0, .string ⟨#[]⟩, .int .i32 0, .int .i32 0, .string X3, .string X0, .string X1, .int .i32 0, .int .i32 0, .int .i32 0, .int .i32 0, .bool true, .bool false, .bool true, .int .i64 0, .int .i64 0, .int .i32 0, .int .i32 0, .int .i32 0, .int .i32 0, .int .u16 0, .int .u8 0, .int .u8 0]) rfl (by kernel_rfl) (by kernel_rfl) (by kernel_rfl) (hQx _ _) (.inl ⟨by rfl, fun w' _ => by kernel_rfl⟩) (hSK _ hKb2) ?_
    simp only [Act.put, List.setIfInBounds_toArray]
    refine wpAnyH_all (rs := [6]) (by kernel_rfl) (by decide) ?_
    intro i hi
    obtain rfl := List.mem_singleton.1 hi
    refine wpOp_step (o := _) rfl (fun K3 hK3 => ?_)
    rw [if_pos (by rfl)]
    refine wp_store_row 120 _ _ rfl wb.heap.size #[.bool true, .func F0 #[] A0, .func F1 #[] A1, .func F2 #[] A2, .func F3 #[] A3, .int .i8 3, .map none, .string X0, .string X1, .string X2, .string X3, .string X4, .string X5, .string X6, .string X7, .int .u8 0, .int .u32 0, .slice none 0 0, .slice none 0 0, .string ⟨#[]⟩, .int .i32 0, .int .i32 0, .string X3, .string X0, .string X1, .int .i32 0, .int .i32 0, .int .i32 0, .int .i32 0, .bool true, .bool false, .bool true, .int .i64 0, .int .i64 0, .int .i32 0, .int .i32 0, .int .i32 0, .int .i32 0, .int .u16 0, .int .u8 0, .int .u8 0] rfl rfl 120 _ hG (by kernel_rfl) (by kernel_rfl) (by kernel_rfl) ?_
    have hg2 := setRow_heap _ wb.heap.size _ #[.bool true, .func F0 #[] A0, .func F1 #[] A1, .func F2 #[] A2, .func F3 #[] A3, .int .i8 3, .map none, .string X0, .string X1, .string X2, .string X3, .string X4, .string X5, .string X6, .string X7, .int .u8 0, .int .u32 0, .slice none 0 0, .slice none 0 0, .string ⟨#[]⟩, .int .i32 0, .int .i32 0, .string X3, .string X0, .string X1, .int .i32 0, .int .i32 0, .int .i32 0, .int .i32 0, .bool true, .bool false, .bool true, .int .i64 0, .int .i64 0, .int .i32 0, .int .i32 0, .int .i32 0, .int .i32 0, .int .u16 0, .int .u8 0, .int .u8 0] _ _ hG
    have hk2 : KeepA wb _ := (Keep.setRowN (g := wb.heap.size) hKb2 (Nat.le_refl _) #[.bool true, .func F0 #[] A0, .func F1 #[] A1, .func F2 #[] A2, .func F3 #[] A3, .int .i8 3, .map none, .string X0, .string X1, .string X2, .string X3, .string X4, .string X5, .string X6, .string X7, .int .u8 0, .int .u32 0, .slice none 0 0, .slice none 0 0, .string ⟨#[]⟩, .int .i32 0, .int .i32 0, .string X3, .string X0, .string X1, .int .i32 0, .int .i32 0, .int .i32 0, .int .i32 0, .bool true, .bool false, .bool true, .int .i64 0, .int .i64 0, .int .i32 0, .int .i32 0, .int .i32 0, .int .i32 0, .int .u16 0, .int .u8 0, .int .u8 0])
    refine hK3 _ _ ⟨hSK _ hk2, ?_⟩
    refine wpAnyH_done (by kernel_rfl) ?_ _
    exact ⟨rfl, wb.heap.size, fun j => if j = 14 then _ else if j = 15 then _ else if j = 16 then _ else if j = 17 then _ else _, rfl, hgs, hg2, hk2⟩
end Go.Proofs.YtedckphklebndaaGreatDoor
