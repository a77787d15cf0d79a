/- The package's next at whitespace. -/
import Derived.Test.YtedckphklebndaaGreatDoorQR22
namespace Go.Proofs.YtedckphklebndaaGreatDoor
open Go Go.RowKit
theorem byte_tail {s : ByteArray} {t : List Int} (h : Sfx s t) (hn : t ≠ []) : ∃ hi : ps s t < s.size, (((s[ps s t]'hi).toNat : Nat) : Int) = lead (hd t) := by
  have hi := ps_lt' h hn
  cases t with
  | nil => exact absurd rfl hn
  | cons c u => exact ⟨hi, byte_at h hi rfl⟩
theorem lead_42 {s : ByteArray} {t : List Int} (h : Sfx s t) (hn : t ≠ []) : lead (hd t) = 42 ↔ hd t = 42 := by
  cases t with
  | nil => exact absurd rfl hn
  | cons c u =>
    simp only [hd_cons]
    by_cases e : c < 128
    · rw [lead_low e]
    · have := lead_high h.all.head (by omega)
      omega
theorem ps_all {s : ByteArray} {t : List Int} (h : ps s t < s.size) : t ≠ [] := by
  rintro rfl
  rw [ps_nil] at h
  omega
set_option maxRecDepth 1000000 in
set_option maxHeartbeats 16000000 in
theorem nx_ws32 {S : Nat → Prop} {B : Nat} {k : LK} {w0 w : World} {g : Nat} {s : ByteArray} {r : Nat → Value} {st : Nat} {l lt : List Int} {q : Nat} (h : NQ S B k w0 w g s r st l lt q) (hc : hd l = 32) (hT : (toks l).2 = false) (f : Nat → Value) :
    Code.wp Tryz.prog nxBody (NxR S B k w0 g s l) ⟨fr592 (.pointer (some ⟨g, 0, none⟩)) f, []⟩ w := by
  unfold fr592
  conv => arg 2; whnf
  have c36 := h.lq.la.c36
  have c37 := h.lq.la.c37
  have hps := ps_le s l
  have hsz := h.lq.la.size
  have zz : (st : Int) + ((ps s l : Int) - st) = (ps s l : Nat) := by omega
  have b2 : ((ps s l : Nat) : Int) ≤ 2147483647 := by omega
  go_upto_region 1 with (first | (go_at_call 24; refine (End_at _ _ (by omega) _).mono ?_; rintro e w1 ⟨rfl, hk1⟩; have hL := (h.lq.keepA hk1).la; have f36 := hL.frozen 36; have f37 := hL.frozen 37; have f38 := hL.frozen 38; have f39 := hL.frozen 39; have f40 := hL.frozen 40; have d36 := hL.c36; have d37 := hL.c37; have d38 := hL.c38; have d39 := hL.c39; have d40 := hL.c40; clear hL))
  have hQ := (h.lq.keepA hk1).start
  unfold wTok at hQ
  clear f36 f37 f38 f39 f40 d36 d37 d38 d39 d40 c36 c37 hk1 zz b2
  generalize ((((w1.setCell ⟨g, 36, none⟩ (.int .i32 (ps s l : Nat))).setCell ⟨g, 37, none⟩ (.int .i32 0)).setCell ⟨g, 38, none⟩ (.int .u16 0)).setCell ⟨g, 39, none⟩ (.int .u8 0)).setCell ⟨g, 40, none⟩ (.int .u8 0) = wt at hQ ⊢
  have c35 := hQ.la.c35
  have hsp : isSp (hd l) = true := by rw [hc]; rfl
  have hn : nextF l = ({ kind := 38 }, spaceF l, false) := nextF_space hsp
  have he : endF l = wsF l := by unfold endF; rw [if_pos hsp]
  have hcm : ¬ (hd l = 47 ∧ pk l 1 = 42) := by rw [hc]; exact fun e => absurd e.1 (by decide)
  have HT := Lib.hid hT
  have HC := Lib.hid hc
  have HSP := Lib.hid hsp
  rw [hc] at c35
  clear hc hT hsp
  go_wp2_with (fail)
  refine (step_la hQ.la).mono ?_
  rintro e w2 ⟨rfl, hA⟩
  have hQ2 := hQ.stepS hA
  clear hA
  have hsu := h.suf (tail_suf l)
  go_wp2_with (fail)
  go_loopg [] l.tail.length (fun n wr => WsK S B k w0 g s (ps s l) l n wr)
  case atStart => exact ⟨l.tail, tok0 r, lt, q, rfl, ws_tail HSP.out, toks_space HT.out HSP.out, ⟨hQ2, hsu.1, hsu.2, h.tok34⟩, rfl, rfl⟩
  case round =>
    obtain ⟨li, ri, lti, qi, hk, hw, hTi, hN, h38, h40⟩ := hrel
    have HK := Lib.hid hk
    have HW := Lib.hid hw
    have HTI := Lib.hid hTi
    have H38 := Lib.hid h38
    have H40 := Lib.hid h40
    clear hk hw hTi h38 h40 hQ2 hQ c35
    have e35 := hN.lq.la.c35
    have e33 := hN.lq.la.c33
    have e10 := hN.lq.la.c10
    have e36 := hN.lq.la.c36
    have e37 := hN.lq.la.c37
    cases hs2 : isSp (hd li) with
    | true =>
      have HS2 := Lib.hid hs2
      have HNE : Hid (li ≠ []) := Lib.hid (by rintro rfl; simp [isSp, isNL] at hs2)
      go_wp2_with (first | (go_at_call 34; refine (isWhitespace_calls _ _).mono ?_; rintro e w1 ⟨rfl, rfl⟩))
      refine (step_la hN.lq.la).mono ?_
      rintro e w3 ⟨rfl, hA⟩
      have hQ3 := hN.lq.stepS hA
      clear hA
      go_wp2_with (fail)
      have hsi := hN.suf (tail_suf li)
      go_roundg li.tail.length
      case measure => have := tail_lt' HNE.out; have := HK.out; unfold tailLt at *; omega
      case rel => exact ⟨li.tail, ri, lti, qi, rfl, (ws_tail HS2.out).trans HW.out, toks_space HTI.out HS2.out, ⟨hQ3, hsi.1, hsi.2, hN.i34⟩, H38.out, H40.out⟩
    | false =>
      have HS2 := Lib.hid hs2
      by_cases h47 : hd li = 47 ∧ pk li 1 = 42
      · obtain ⟨hc1, hc2⟩ := h47
        obtain ⟨R, hC, hcR, hTR⟩ := toks_close HTI.out hc1 hc2
        have HWR := Lib.hid (ws_cmt hc1 hc2 hC)
        rw [drop2] at hC
        have HTR := Lib.hid hTR
        have HCC := Lib.hid hC
        have HR : Hid (R <:+ li) := Lib.hid ((closeF_suf hC).trans ((List.tail_suffix _).trans (List.tail_suffix _)))
        have hlen := closeF_le hC
        have p1 := ps_tail_le hN.lq.la.sfx
        have p2 := ps_tail_le hN.lq.la.sfx.tl
        rw [pk_one] at hc2
        have hnt : li.tail ≠ [] := by intro e; rw [e] at hc2; exact absurd hc2 (by decide)
        have hll : li.tail.tail.length + 2 ≤ li.length := by
          cases li with
          | nil => exact absurd hc1 (by decide)
          | cons c t =>
            cases t with
            | nil => exact absurd rfl hnt
            | cons d t => simp
        have HQ2 := Lib.hid (hN.lts (n := 2) HR.out (by omega))
        have HLEN : Hid (R.length < li.length) := Lib.hid (by omega)
        have HAL : Hid (ps s li ≤ ps s li.tail.tail) := Lib.hid (by omega)
        obtain ⟨hi, hb⟩ := byte_tail hN.lq.la.sfx.tl hnt
        rw [(lead_42 hN.lq.la.sfx.tl hnt).2 hc2] at hb
        have hil : ((ps s li.tail : Nat) : Int) < s.size := by omega
        have hi0 : (0 : Int) ≤ (ps s li.tail : Nat) := by omega
        have k47 : (hd li == 47) = true := by rw [hc1]; rfl
        have hps2 : ps s li ≤ 1073741824 := Nat.le_trans (ps_le s li) hN.lq.la.size
        clear hc1 hcR hTR hC hnt hll hlen p1 p2 hc2
        go_wp2_with (first | (go_at_call 34; refine (isWhitespace_calls _ _).mono ?_; rintro e w1 ⟨rfl, rfl⟩))
        go_quiet (fail)
        have hKn : KeepA wr (wr.drewN nq) := (Keep.refl _ _).drewN nq
        have hQn := hN.lq.keepA hKn
        have e36 := hQn.la.c36
        have e37 := hQn.la.c37
        go_upto_region 35 with (first | (go_at_call 24; refine (End_at _ _ hps2 _).mono ?_; rintro e w1 ⟨rfl, hK1⟩))
        have hQ1 := hQn.keepA hK1
        have hKb : KeepA w1 (w1.alloc (.cells #[.int .i32 (ps s li : Nat), .int .i32 2] 50)) := (Keep.refl _ _).alloc _
        have hB : (w1.alloc (.cells #[.int .i32 (ps s li : Nat), .int .i32 2] 50)).heap[w1.heap.size]? = some (.cells #[.int .i32 (ps s li : Nat), .int .i32 2] 50 (0, 0)) := alloc_at _ rfl
        have hQb := hQ1.keepA hKb
        have hXg : w1.heap.size ≠ g := by have := hQ1.la.lt; omega
        clear hQ1 hKb hQn hKn e36 e37
        obtain ⟨wb, hwb⟩ : ∃ x, w1.alloc (.cells #[.int .i32 (ps s li : Nat), .int .i32 2] 50) = x := ⟨_, rfl⟩
        obtain ⟨X, hX⟩ : ∃ x, w1.heap.size = x := ⟨_, rfl⟩
        rw [hwb] at hQb hB ⊢
        rw [hX] at hB hXg ⊢
        clear hwb hX
        go_wp2_with (fail)
        refine (step_la hQb.la).mono ?_
        rintro e w4 ⟨rfl, hA4⟩
        have hQ4 := hQb.stepS hA4
        have hB4 := hA4.kp.blk hB hXg
        clear hQb hB hA4
        go_wp2_with (fail)
        refine (step_la hQ4.la).mono ?_
        rintro e w5 ⟨rfl, hA5⟩
        have hQ5 := hQ4.stepS hA5
        have hB5 := hA5.kp.blk hB4 hXg
        clear hQ4 hB4 hA5
        have y0 : w5.cell? ⟨X, 0, none⟩ = some (.int .i32 (ps s li : Nat)) := (blk_cell hB5 0).trans rfl
        have y1 : w5.cell? ⟨X, 1, none⟩ = some (.int .i32 2) := (blk_cell hB5 1).trans rfl
        go_wp2_with (fail)
        refine (consumeToEnd_lq hQ5 hN.q HCC.out HAL.out 2 (by decide)).mono ?_
        rintro e w6 ⟨rfl, r6, hQ6, hO6⟩
        go_wp2_with (fail)
        go_roundg R.length
        case measure => have := HLEN.out; have := HK.out; omega
        case rel =>
          obtain ⟨x, hx⟩ := hN.i34
          exact ⟨R, r6, lti, qi + 2, rfl, HWR.out.trans HW.out, HTR.out, ⟨hQ6, HQ2.out, HR.out.trans hN.hs, x, by rw [hO6 34 (by omega)]; exact hx⟩, by rw [hO6 38 (by omega)]; exact H38.out, by rw [hO6 40 (by omega)]; exact H40.out⟩
      · have HE : Hid (endF l = li) := Lib.hid (by rw [he, ← HW.out]; exact ws_end HS2.out h47)
        by_cases h1 : hd li = 47
        · have k47 : (hd li == 47) = true := by rw [h1]; rfl
          by_cases hi : ps s li.tail < s.size
          · have hnt := ps_all hi
            obtain ⟨hi', hb⟩ := byte_tail hN.lq.la.sfx.tl hnt
            have hb2 : ((s[ps s li.tail]'hi').toNat : Int) ≠ 42 := by
              rw [hb]
              intro e
              exact h47 ⟨h1, by rw [pk_one]; exact (lead_42 hN.lq.la.sfx.tl hnt).1 e⟩
            have kb : (((s[ps s li.tail]'hi').toNat : Int) == 42) = false := by simp only [beq_eq_false_iff_ne]; exact hb2
            have hil : ((ps s li.tail : Nat) : Int) < s.size := by omega
            have hi0 : (0 : Int) ≤ (ps s li.tail : Nat) := by omega
            clear h47 h1 hb hb2
            have d39 := hN.lq.la.c39
            have f39 := hN.lq.la.frozen 39
            go_wp2_with (first | (go_at_call 34; refine (isWhitespace_calls _ _).mono ?_; rintro e w1 ⟨rfl, rfl⟩))
            go_quiet (fail)
            have hKn : KeepA wr (wr.drewN nq) := (Keep.refl _ _).drewN nq
            have hQn := hN.lq.keepA hKn
            have d39 := hQn.la.c39
            have f39 := hQn.la.frozen 39
            go_wp2_with (fail)
            exact NxR.one hQn H38.out H40.out hN.i34 hcm HE.out (by rw [hn]) (by rw [hn]) (by rw [hn]) hN.hq hN.hs ⟨rfl, rfl, rfl⟩
          · have hil : ¬ ((ps s li.tail : Nat) : Int) < s.size := by omega
            have heq : ps s li.tail = s.size := by have := ps_le s li.tail; omega
            rw [heq] at e33
            clear hil heq
            have hil : ¬ (s.size : Int) < s.size := by omega
            have hil2 : decide ((s.size : Int) < s.size) = false := decide_eq_false hil
            clear h47 h1 hi
            have d39 := hN.lq.la.c39
            have f39 := hN.lq.la.frozen 39
            go_wp2_with (first | (go_at_call 34; refine (isWhitespace_calls _ _).mono ?_; rintro e w1 ⟨rfl, rfl⟩))
            go_quiet (fail)
            have hKn : KeepA wr (wr.drewN nq) := (Keep.refl _ _).drewN nq
            have hQn := hN.lq.keepA hKn
            have d39 := hQn.la.c39
            have f39 := hQn.la.frozen 39
            go_wp2_with (fail)
            exact NxR.one hQn H38.out H40.out hN.i34 hcm HE.out (by rw [hn]) (by rw [hn]) (by rw [hn]) hN.hq hN.hs ⟨rfl, rfl, rfl⟩
        · have k47 : (hd li == 47) = false := by simp [h1]
          clear h47 h1
          have d39 := hN.lq.la.c39
          have f39 := hN.lq.la.frozen 39
          go_wp2_with (first | (go_at_call 34; refine (isWhitespace_calls _ _).mono ?_; rintro e w1 ⟨rfl, rfl⟩))
          go_quiet (fail)
          have hKn : KeepA wr (wr.drewN nq) := (Keep.refl _ _).drewN nq
          have hQn := hN.lq.keepA hKn
          have d39 := hQn.la.c39
          have f39 := hQn.la.frozen 39
          go_wp2_with (fail)
          exact NxR.one hQn H38.out H40.out hN.i34 hcm HE.out (by rw [hn]) (by rw [hn]) (by rw [hn]) hN.hq hN.hs ⟨rfl, rfl, rfl⟩
set_option maxRecDepth 1000000 in
set_option maxHeartbeats 16000000 in
theorem nx_ws9 {S : Nat → Prop} {B : Nat} {k : LK} {w0 w : World} {g : Nat} {s : ByteArray} {r : Nat → Value} {st : Nat} {l lt : List Int} {q : Nat} (h : NQ S B k w0 w g s r st l lt q) (hc : hd l = 9) (hT : (toks l).2 = false) (f : Nat → Value) :
    Code.wp Tryz.prog nxBody (NxR S B k w0 g s l) ⟨fr592 (.pointer (some ⟨g, 0, none⟩)) f, []⟩ w := by
  unfold fr592
  conv => arg 2; whnf
  have c36 := h.lq.la.c36
  have c37 := h.lq.la.c37
  have hps := ps_le s l
  have hsz := h.lq.la.size
  have zz : (st : Int) + ((ps s l : Int) - st) = (ps s l : Nat) := by omega
  have b2 : ((ps s l : Nat) : Int) ≤ 2147483647 := by omega
  go_upto_region 1 with (first | (go_at_call 24; refine (End_at _ _ (by omega) _).mono ?_; rintro e w1 ⟨rfl, hk1⟩; have hL := (h.lq.keepA hk1).la; have f36 := hL.frozen 36; have f37 := hL.frozen 37; have f38 := hL.frozen 38; have f39 := hL.frozen 39; have f40 := hL.frozen 40; have d36 := hL.c36; have d37 := hL.c37; have d38 := hL.c38; have d39 := hL.c39; have d40 := hL.c40; clear hL))
  have hQ := (h.lq.keepA hk1).start
  unfold wTok at hQ
  clear f36 f37 f38 f39 f40 d36 d37 d38 d39 d40 c36 c37 hk1 zz b2
  generalize ((((w1.setCell ⟨g, 36, none⟩ (.int .i32 (ps s l : Nat))).setCell ⟨g, 37, none⟩ (.int .i32 0)).setCell ⟨g, 38, none⟩ (.int .u16 0)).setCell ⟨g, 39, none⟩ (.int .u8 0)).setCell ⟨g, 40, none⟩ (.int .u8 0) = wt at hQ ⊢
  have c35 := hQ.la.c35
  have hsp : isSp (hd l) = true := by rw [hc]; rfl
  have hn : nextF l = ({ kind := 38 }, spaceF l, false) := nextF_space hsp
  have he : endF l = wsF l := by unfold endF; rw [if_pos hsp]
  have hcm : ¬ (hd l = 47 ∧ pk l 1 = 42) := by rw [hc]; exact fun e => absurd e.1 (by decide)
  have HT := Lib.hid hT
  have HC := Lib.hid hc
  have HSP := Lib.hid hsp
  rw [hc] at c35
  clear hc hT hsp
  go_wp2_with (fail)
  refine (step_la hQ.la).mono ?_
  rintro e w2 ⟨rfl, hA⟩
  have hQ2 := hQ.stepS hA
  clear hA
  have hsu := h.suf (tail_suf l)
  go_wp2_with (fail)
  go_loopg [] l.tail.length (fun n wr => WsK S B k w0 g s (ps s l) l n wr)
  case atStart => exact ⟨l.tail, tok0 r, lt, q, rfl, ws_tail HSP.out, toks_space HT.out HSP.out, ⟨hQ2, hsu.1, hsu.2, h.tok34⟩, rfl, rfl⟩
  case round =>
    obtain ⟨li, ri, lti, qi, hk, hw, hTi, hN, h38, h40⟩ := hrel
    have HK := Lib.hid hk
    have HW := Lib.hid hw
    have HTI := Lib.hid hTi
    have H38 := Lib.hid h38
    have H40 := Lib.hid h40
    clear hk hw hTi h38 h40 hQ2 hQ c35
    have e35 := hN.lq.la.c35
    have e33 := hN.lq.la.c33
    have e10 := hN.lq.la.c10
    have e36 := hN.lq.la.c36
    have e37 := hN.lq.la.c37
    cases hs2 : isSp (hd li) with
    | true =>
      have HS2 := Lib.hid hs2
      have HNE : Hid (li ≠ []) := Lib.hid (by rintro rfl; simp [isSp, isNL] at hs2)
      go_wp2_with (first | (go_at_call 34; refine (isWhitespace_calls _ _).mono ?_; rintro e w1 ⟨rfl, rfl⟩))
      refine (step_la hN.lq.la).mono ?_
      rintro e w3 ⟨rfl, hA⟩
      have hQ3 := hN.lq.stepS hA
      clear hA
      go_wp2_with (fail)
      have hsi := hN.suf (tail_suf li)
      go_roundg li.tail.length
      case measure => have := tail_lt' HNE.out; have := HK.out; unfold tailLt at *; omega
      case rel => exact ⟨li.tail, ri, lti, qi, rfl, (ws_tail HS2.out).trans HW.out, toks_space HTI.out HS2.out, ⟨hQ3, hsi.1, hsi.2, hN.i34⟩, H38.out, H40.out⟩
    | false =>
      have HS2 := Lib.hid hs2
      by_cases h47 : hd li = 47 ∧ pk li 1 = 42
      · obtain ⟨hc1, hc2⟩ := h47
        obtain ⟨R, hC, hcR, hTR⟩ := toks_close HTI.out hc1 hc2
        have HWR := Lib.hid (ws_cmt hc1 hc2 hC)
        rw [drop2] at hC
        have HTR := Lib.hid hTR
        have HCC := Lib.hid hC
        have HR : Hid (R <:+ li) := Lib.hid ((closeF_suf hC).trans ((List.tail_suffix _).trans (List.tail_suffix _)))
        have hlen := closeF_le hC
        have p1 := ps_tail_le hN.lq.la.sfx
        have p2 := ps_tail_le hN.lq.la.sfx.tl
        rw [pk_one] at hc2
        have hnt : li.tail ≠ [] := by intro e; rw [e] at hc2; exact absurd hc2 (by decide)
        have hll : li.tail.tail.length + 2 ≤ li.length := by
          cases li with
          | nil => exact absurd hc1 (by decide)
          | cons c t =>
            cases t with
            | nil => exact absurd rfl hnt
            | cons d t => simp
        have HQ2 := Lib.hid (hN.lts (n := 2) HR.out (by omega))
        have HLEN : Hid (R.length < li.length) := Lib.hid (by omega)
        have HAL : Hid (ps s li ≤ ps s li.tail.tail) := Lib.hid (by omega)
        obtain ⟨hi, hb⟩ := byte_tail hN.lq.la.sfx.tl hnt
        rw [(lead_42 hN.lq.la.sfx.tl hnt).2 hc2] at hb
        have hil : ((ps s li.tail : Nat) : Int) < s.size := by omega
        have hi0 : (0 : Int) ≤ (ps s li.tail : Nat) := by omega
        have k47 : (hd li == 47) = true := by rw [hc1]; rfl
        have hps2 : ps s li ≤ 1073741824 := Nat.le_trans (ps_le s li) hN.lq.la.size
        clear hc1 hcR hTR hC hnt hll hlen p1 p2 hc2
        go_wp2_with (first | (go_at_call 34; refine (isWhitespace_calls _ _).mono ?_; rintro e w1 ⟨rfl, rfl⟩))
        go_quiet (fail)
        have hKn : KeepA wr (wr.drewN nq) := (Keep.refl _ _).drewN nq
        have hQn := hN.lq.keepA hKn
        have e36 := hQn.la.c36
        have e37 := hQn.la.c37
        go_upto_region 35 with (first | (go_at_call 24; refine (End_at _ _ hps2 _).mono ?_; rintro e w1 ⟨rfl, hK1⟩))
        have hQ1 := hQn.keepA hK1
        have hKb : KeepA w1 (w1.alloc (.cells #[.int .i32 (ps s li : Nat), .int .i32 2] 50)) := (Keep.refl _ _).alloc _
        have hB : (w1.alloc (.cells #[.int .i32 (ps s li : Nat), .int .i32 2] 50)).heap[w1.heap.size]? = some (.cells #[.int .i32 (ps s li : Nat), .int .i32 2] 50 (0, 0)) := alloc_at _ rfl
        have hQb := hQ1.keepA hKb
        have hXg : w1.heap.size ≠ g := by have := hQ1.la.lt; omega
        clear hQ1 hKb hQn hKn e36 e37
        obtain ⟨wb, hwb⟩ : ∃ x, w1.alloc (.cells #[.int .i32 (ps s li : Nat), .int .i32 2] 50) = x := ⟨_, rfl⟩
        obtain ⟨X, hX⟩ : ∃ x, w1.heap.size = x := ⟨_, rfl⟩
        rw [hwb] at hQb hB ⊢
        rw [hX] at hB hXg ⊢
        clear hwb hX
        go_wp2_with (fail)
        refine (step_la hQb.la).mono ?_
        rintro e w4 ⟨rfl, hA4⟩
        have hQ4 := hQb.stepS hA4
        have hB4 := hA4.kp.blk hB hXg
        clear hQb hB hA4
        go_wp2_with (fail)
        refine (step_la hQ4.la).mono ?_
        rintro e w5 ⟨rfl, hA5⟩
        have hQ5 := hQ4.stepS hA5
        have hB5 := hA5.kp.blk hB4 hXg
        clear hQ4 hB4 hA5
        have y0 : w5.cell? ⟨X, 0, none⟩ = some (.int .i32 (ps s li : Nat)) := (blk_cell hB5 0).trans rfl
        have y1 : w5.cell? ⟨X, 1, none⟩ = some (.int .i32 2) := (blk_cell hB5 1).trans rfl
        go_wp2_with (fail)
        refine (consumeToEnd_lq hQ5 hN.q HCC.out HAL.out 2 (by decide)).mono ?_
        rintro e w6 ⟨rfl, r6, hQ6, hO6⟩
        go_wp2_with (fail)
        go_roundg R.length
        case measure => have := HLEN.out; have := HK.out; omega
        case rel =>
          obtain ⟨x, hx⟩ := hN.i34
          exact ⟨R, r6, lti, qi + 2, rfl, HWR.out.trans HW.out, HTR.out, ⟨hQ6, HQ2.out, HR.out.trans hN.hs, x, by rw [hO6 34 (by omega)]; exact hx⟩, by rw [hO6 38 (by omega)]; exact H38.out, by rw [hO6 40 (by omega)]; exact H40.out⟩
      · have HE : Hid (endF l = li) := Lib.hid (by rw [he, ← HW.out]; exact ws_end HS2.out h47)
        by_cases h1 : hd li = 47
        · have k47 : (hd li == 47) = true := by rw [h1]; rfl
          by_cases hi : ps s li.tail < s.size
          · have hnt := ps_all hi
            obtain ⟨hi', hb⟩ := byte_tail hN.lq.la.sfx.tl hnt
            have hb2 : ((s[ps s li.tail]'hi').toNat : Int) ≠ 42 := by
              rw [hb]
              intro e
              exact h47 ⟨h1, by rw [pk_one]; exact (lead_42 hN.lq.la.sfx.tl hnt).1 e⟩
            have kb : (((s[ps s li.tail]'hi').toNat : Int) == 42) = false := by simp only [beq_eq_false_iff_ne]; exact hb2
            have hil : ((ps s li.tail : Nat) : Int) < s.size := by omega
            have hi0 : (0 : Int) ≤ (ps s li.tail : Nat) := by omega
            clear h47 h1 hb hb2
            have d39 := hN.lq.la.c39
            have f39 := hN.lq.la.frozen 39
            go_wp2_with (first | (go_at_call 34; refine (isWhitespace_calls _ _).mono ?_; rintro e w1 ⟨rfl, rfl⟩))
            go_quiet (fail)
            have hKn : KeepA wr (wr.drewN nq) := (Keep.refl _ _).drewN nq
            have hQn := hN.lq.keepA hKn
            have d39 := hQn.la.c39
            have f39 := hQn.la.frozen 39
            go_wp2_with (fail)
            exact NxR.one hQn H38.out H40.out hN.i34 hcm HE.out (by rw [hn]) (by rw [hn]) (by rw [hn]) hN.hq hN.hs ⟨rfl, rfl, rfl⟩
          · have hil : ¬ ((ps s li.tail : Nat) : Int) < s.size := by omega
            have heq : ps s li.tail = s.size := by have := ps_le s li.tail; omega
            rw [heq] at e33
            clear hil heq
            have hil : ¬ (s.size : Int) < s.size := by omega
            have hil2 : decide ((s.size : Int) < s.size) = false := decide_eq_false hil
            clear h47 h1 hi
            have d39 := hN.lq.la.c39
            have f39 := hN.lq.la.frozen 39
            go_wp2_with (first | (go_at_call 34; refine (isWhitespace_calls _ _).mono ?_; rintro e w1 ⟨rfl, rfl⟩))
            go_quiet (fail)
            have hKn : KeepA wr (wr.drewN nq) := (Keep.refl _ _).drewN nq
            have hQn := hN.lq.keepA hKn
            have d39 := hQn.la.c39
            have f39 := hQn.la.frozen 39
            go_wp2_with (fail)
            exact NxR.one hQn H38.out H40.out hN.i34 hcm HE.out (by rw [hn]) (by rw [hn]) (by rw [hn]) hN.hq hN.hs ⟨rfl, rfl, rfl⟩
        · have k47 : (hd li == 47) = false := by simp [h1]
          clear h47 h1
          have d39 := hN.lq.la.c39
          have f39 := hN.lq.la.frozen 39
          go_wp2_with (first | (go_at_call 34; refine (isWhitespace_calls _ _).mono ?_; rintro e w1 ⟨rfl, rfl⟩))
          go_quiet (fail)
          have hKn : KeepA wr (wr.drewN nq) := (Keep.refl _ _).drewN nq
          have hQn := hN.lq.keepA hKn
          have d39 := hQn.la.c39
          have f39 := hQn.la.frozen 39
          go_wp2_with (fail)
          exact NxR.one hQn H38.out H40.out hN.i34 hcm HE.out (by rw [hn]) (by rw [hn]) (by rw [hn]) hN.hq hN.hs ⟨rfl, rfl, rfl⟩
set_option maxRecDepth 1000000 in
set_option maxHeartbeats 16000000 in
theorem nx_ws10 {S : Nat → Prop} {B : Nat} {k : LK} {w0 w : World} {g : Nat} {s : ByteArray} {r : Nat → Value} {st : Nat} {l lt : List Int} {q : Nat} (h : NQ S B k w0 w g s r st l lt q) (hc : hd l = 10) (hT : (toks l).2 = false) (f : Nat → Value) :
    Code.wp Tryz.prog nxBody (NxR S B k w0 g s l) ⟨fr592 (.pointer (some ⟨g, 0, none⟩)) f, []⟩ w := by
  unfold fr592
  conv => arg 2; whnf
  have c36 := h.lq.la.c36
  have c37 := h.lq.la.c37
  have hps := ps_le s l
  have hsz := h.lq.la.size
  have zz : (st : Int) + ((ps s l : Int) - st) = (ps s l : Nat) := by omega
  have b2 : ((ps s l : Nat) : Int) ≤ 2147483647 := by omega
  go_upto_region 1 with (first | (go_at_call 24; refine (End_at _ _ (by omega) _).mono ?_; rintro e w1 ⟨rfl, hk1⟩; have hL := (h.lq.keepA hk1).la; have f36 := hL.frozen 36; have f37 := hL.frozen 37; have f38 := hL.frozen 38; have f39 := hL.frozen 39; have f40 := hL.frozen 40; have d36 := hL.c36; have d37 := hL.c37; have d38 := hL.c38; have d39 := hL.c39; have d40 := hL.c40; clear hL))
  have hQ := (h.lq.keepA hk1).start
  unfold wTok at hQ
  clear f36 f37 f38 f39 f40 d36 d37 d38 d39 d40 c36 c37 hk1 zz b2
  generalize ((((w1.setCell ⟨g, 36, none⟩ (.int .i32 (ps s l : Nat))).setCell ⟨g, 37, none⟩ (.int .i32 0)).setCell ⟨g, 38, none⟩ (.int .u16 0)).setCell ⟨g, 39, none⟩ (.int .u8 0)).setCell ⟨g, 40, none⟩ (.int .u8 0) = wt at hQ ⊢
  have c35 := hQ.la.c35
  have hsp : isSp (hd l) = true := by rw [hc]; rfl
  have hn : nextF l = ({ kind := 38 }, spaceF l, false) := nextF_space hsp
  have he : endF l = wsF l := by unfold endF; rw [if_pos hsp]
  have hcm : ¬ (hd l = 47 ∧ pk l 1 = 42) := by rw [hc]; exact fun e => absurd e.1 (by decide)
  have HT := Lib.hid hT
  have HC := Lib.hid hc
  have HSP := Lib.hid hsp
  rw [hc] at c35
  clear hc hT hsp
  go_wp2_with (fail)
  refine (step_la hQ.la).mono ?_
  rintro e w2 ⟨rfl, hA⟩
  have hQ2 := hQ.stepS hA
  clear hA
  have hsu := h.suf (tail_suf l)
  go_wp2_with (fail)
  go_loopg [] l.tail.length (fun n wr => WsK S B k w0 g s (ps s l) l n wr)
  case atStart => exact ⟨l.tail, tok0 r, lt, q, rfl, ws_tail HSP.out, toks_space HT.out HSP.out, ⟨hQ2, hsu.1, hsu.2, h.tok34⟩, rfl, rfl⟩
  case round =>
    obtain ⟨li, ri, lti, qi, hk, hw, hTi, hN, h38, h40⟩ := hrel
    have HK := Lib.hid hk
    have HW := Lib.hid hw
    have HTI := Lib.hid hTi
    have H38 := Lib.hid h38
    have H40 := Lib.hid h40
    clear hk hw hTi h38 h40 hQ2 hQ c35
    have e35 := hN.lq.la.c35
    have e33 := hN.lq.la.c33
    have e10 := hN.lq.la.c10
    have e36 := hN.lq.la.c36
    have e37 := hN.lq.la.c37
    cases hs2 : isSp (hd li) with
    | true =>
      have HS2 := Lib.hid hs2
      have HNE : Hid (li ≠ []) := Lib.hid (by rintro rfl; simp [isSp, isNL] at hs2)
      go_wp2_with (first | (go_at_call 34; refine (isWhitespace_calls _ _).mono ?_; rintro e w1 ⟨rfl, rfl⟩))
      refine (step_la hN.lq.la).mono ?_
      rintro e w3 ⟨rfl, hA⟩
      have hQ3 := hN.lq.stepS hA
      clear hA
      go_wp2_with (fail)
      have hsi := hN.suf (tail_suf li)
      go_roundg li.tail.length
      case measure => have := tail_lt' HNE.out; have := HK.out; unfold tailLt at *; omega
      case rel => exact ⟨li.tail, ri, lti, qi, rfl, (ws_tail HS2.out).trans HW.out, toks_space HTI.out HS2.out, ⟨hQ3, hsi.1, hsi.2, hN.i34⟩, H38.out, H40.out⟩
    | false =>
      have HS2 := Lib.hid hs2
      by_cases h47 : hd li = 47 ∧ pk li 1 = 42
      · obtain ⟨hc1, hc2⟩ := h47
        obtain ⟨R, hC, hcR, hTR⟩ := toks_close HTI.out hc1 hc2
        have HWR := Lib.hid (ws_cmt hc1 hc2 hC)
        rw [drop2] at hC
        have HTR := Lib.hid hTR
        have HCC := Lib.hid hC
        have HR : Hid (R <:+ li) := Lib.hid ((closeF_suf hC).trans ((List.tail_suffix _).trans (List.tail_suffix _)))
        have hlen := closeF_le hC
        have p1 := ps_tail_le hN.lq.la.sfx
        have p2 := ps_tail_le hN.lq.la.sfx.tl
        rw [pk_one] at hc2
        have hnt : li.tail ≠ [] := by intro e; rw [e] at hc2; exact absurd hc2 (by decide)
        have hll : li.tail.tail.length + 2 ≤ li.length := by
          cases li with
          | nil => exact absurd hc1 (by decide)
          | cons c t =>
            cases t with
            | nil => exact absurd rfl hnt
            | cons d t => simp
        have HQ2 := Lib.hid (hN.lts (n := 2) HR.out (by omega))
        have HLEN : Hid (R.length < li.length) := Lib.hid (by omega)
        have HAL : Hid (ps s li ≤ ps s li.tail.tail) := Lib.hid (by omega)
        obtain ⟨hi, hb⟩ := byte_tail hN.lq.la.sfx.tl hnt
        rw [(lead_42 hN.lq.la.sfx.tl hnt).2 hc2] at hb
        have hil : ((ps s li.tail : Nat) : Int) < s.size := by omega
        have hi0 : (0 : Int) ≤ (ps s li.tail : Nat) := by omega
        have k47 : (hd li == 47) = true := by rw [hc1]; rfl
        have hps2 : ps s li ≤ 1073741824 := Nat.le_trans (ps_le s li) hN.lq.la.size
        clear hc1 hcR hTR hC hnt hll hlen p1 p2 hc2
        go_wp2_with (first | (go_at_call 34; refine (isWhitespace_calls _ _).mono ?_; rintro e w1 ⟨rfl, rfl⟩))
        go_quiet (fail)
        have hKn : KeepA wr (wr.drewN nq) := (Keep.refl _ _).drewN nq
        have hQn := hN.lq.keepA hKn
        have e36 := hQn.la.c36
        have e37 := hQn.la.c37
        go_upto_region 35 with (first | (go_at_call 24; refine (End_at _ _ hps2 _).mono ?_; rintro e w1 ⟨rfl, hK1⟩))
        have hQ1 := hQn.keepA hK1
        have hKb : KeepA w1 (w1.alloc (.cells #[.int .i32 (ps s li : Nat), .int .i32 2] 50)) := (Keep.refl _ _).alloc _
        have hB : (w1.alloc (.cells #[.int .i32 (ps s li : Nat), .int .i32 2] 50)).heap[w1.heap.size]? = some (.cells #[.int .i32 (ps s li : Nat), .int .i32 2] 50 (0, 0)) := alloc_at _ rfl
        have hQb := hQ1.keepA hKb
        have hXg : w1.heap.size ≠ g := by have := hQ1.la.lt; omega
        clear hQ1 hKb hQn hKn e36 e37
        obtain ⟨wb, hwb⟩ : ∃ x, w1.alloc (.cells #[.int .i32 (ps s li : Nat), .int .i32 2] 50) = x := ⟨_, rfl⟩
        obtain ⟨X, hX⟩ : ∃ x, w1.heap.size = x := ⟨_, rfl⟩
        rw [hwb] at hQb hB ⊢
        rw [hX] at hB hXg ⊢
        clear hwb hX
        go_wp2_with (fail)
        refine (step_la hQb.la).mono ?_
        rintro e w4 ⟨rfl, hA4⟩
        have hQ4 := hQb.stepS hA4
        have hB4 := hA4.kp.blk hB hXg
        clear hQb hB hA4
        go_wp2_with (fail)
        refine (step_la hQ4.la).mono ?_
        rintro e w5 ⟨rfl, hA5⟩
        have hQ5 := hQ4.stepS hA5
        have hB5 := hA5.kp.blk hB4 hXg
        clear hQ4 hB4 hA5
        have y0 : w5.cell? ⟨X, 0, none⟩ = some (.int .i32 (ps s li : Nat)) := (blk_cell hB5 0).trans rfl
        have y1 : w5.cell? ⟨X, 1, none⟩ = some (.int .i32 2) := (blk_cell hB5 1).trans rfl
        go_wp2_with (fail)
        refine (consumeToEnd_lq hQ5 hN.q HCC.out HAL.out 2 (by decide)).mono ?_
        rintro e w6 ⟨rfl, r6, hQ6, hO6⟩
        go_wp2_with (fail)
        go_roundg R.length
        case measure => have := HLEN.out; have := HK.out; omega
        case rel =>
          obtain ⟨x, hx⟩ := hN.i34
          exact ⟨R, r6, lti, qi + 2, rfl, HWR.out.trans HW.out, HTR.out, ⟨hQ6, HQ2.out, HR.out.trans hN.hs, x, by rw [hO6 34 (by omega)]; exact hx⟩, by rw [hO6 38 (by omega)]; exact H38.out, by rw [hO6 40 (by omega)]; exact H40.out⟩
      · have HE : Hid (endF l = li) := Lib.hid (by rw [he, ← HW.out]; exact ws_end HS2.out h47)
        by_cases h1 : hd li = 47
        · have k47 : (hd li == 47) = true := by rw [h1]; rfl
          by_cases hi : ps s li.tail < s.size
          · have hnt := ps_all hi
            obtain ⟨hi', hb⟩ := byte_tail hN.lq.la.sfx.tl hnt
            have hb2 : ((s[ps s li.tail]'hi').toNat : Int) ≠ 42 := by
              rw [hb]
              intro e
              exact h47 ⟨h1, by rw [pk_one]; exact (lead_42 hN.lq.la.sfx.tl hnt).1 e⟩
            have kb : (((s[ps s li.tail]'hi').toNat : Int) == 42) = false := by simp only [beq_eq_false_iff_ne]; exact hb2
            have hil : ((ps s li.tail : Nat) : Int) < s.size := by omega
            have hi0 : (0 : Int) ≤ (ps s li.tail : Nat) := by omega
            clear h47 h1 hb hb2
            have d39 := hN.lq.la.c39
            have f39 := hN.lq.la.frozen 39
            go_wp2_with (first | (go_at_call 34; refine (isWhitespace_calls _ _).mono ?_; rintro e w1 ⟨rfl, rfl⟩))
            go_quiet (fail)
            have hKn : KeepA wr (wr.drewN nq) := (Keep.refl _ _).drewN nq
            have hQn := hN.lq.keepA hKn
            have d39 := hQn.la.c39
            have f39 := hQn.la.frozen 39
            go_wp2_with (fail)
            exact NxR.one hQn H38.out H40.out hN.i34 hcm HE.out (by rw [hn]) (by rw [hn]) (by rw [hn]) hN.hq hN.hs ⟨rfl, rfl, rfl⟩
          · have hil : ¬ ((ps s li.tail : Nat) : Int) < s.size := by omega
            have heq : ps s li.tail = s.size := by have := ps_le s li.tail; omega
            rw [heq] at e33
            clear hil heq
            have hil : ¬ (s.size : Int) < s.size := by omega
            have hil2 : decide ((s.size : Int) < s.size) = false := decide_eq_false hil
            clear h47 h1 hi
            have d39 := hN.lq.la.c39
            have f39 := hN.lq.la.frozen 39
            go_wp2_with (first | (go_at_call 34; refine (isWhitespace_calls _ _).mono ?_; rintro e w1 ⟨rfl, rfl⟩))
            go_quiet (fail)
            have hKn : KeepA wr (wr.drewN nq) := (Keep.refl _ _).drewN nq
            have hQn := hN.lq.keepA hKn
            have d39 := hQn.la.c39
            have f39 := hQn.la.frozen 39
            go_wp2_with (fail)
            exact NxR.one hQn H38.out H40.out hN.i34 hcm HE.out (by rw [hn]) (by rw [hn]) (by rw [hn]) hN.hq hN.hs ⟨rfl, rfl, rfl⟩
        · have k47 : (hd li == 47) = false := by simp [h1]
          clear h47 h1
          have d39 := hN.lq.la.c39
          have f39 := hN.lq.la.frozen 39
          go_wp2_with (first | (go_at_call 34; refine (isWhitespace_calls _ _).mono ?_; rintro e w1 ⟨rfl, rfl⟩))
          go_quiet (fail)
          have hKn : KeepA wr (wr.drewN nq) := (Keep.refl _ _).drewN nq
          have hQn := hN.lq.keepA hKn
          have d39 := hQn.la.c39
          have f39 := hQn.la.frozen 39
          go_wp2_with (fail)
          exact NxR.one hQn H38.out H40.out hN.i34 hcm HE.out (by rw [hn]) (by rw [hn]) (by rw [hn]) hN.hq hN.hs ⟨rfl, rfl, rfl⟩
set_option maxRecDepth 1000000 in
set_option maxHeartbeats 16000000 in
theorem nx_ws13 {S : Nat → Prop} {B : Nat} {k : LK} {w0 w : World} {g : Nat} {s : ByteArray} {r : Nat → Value} {st : Nat} {l lt : List Int} {q : Nat} (h : NQ S B k w0 w g s r st l lt q) (hc : hd l = 13) (hT : (toks l).2 = false) (f : Nat → Value) :
    Code.wp Tryz.prog nxBody (NxR S B k w0 g s l) ⟨fr592 (.pointer (some ⟨g, 0, none⟩)) f, []⟩ w := by
  unfold fr592
  conv => arg 2; whnf
  have c36 := h.lq.la.c36
  have c37 := h.lq.la.c37
  have hps := ps_le s l
  have hsz := h.lq.la.size
  have zz : (st : Int) + ((ps s l : Int) - st) = (ps s l : Nat) := by omega
  have b2 : ((ps s l : Nat) : Int) ≤ 2147483647 := by omega
  go_upto_region 1 with (first | (go_at_call 24; refine (End_at _ _ (by omega) _).mono ?_; rintro e w1 ⟨rfl, hk1⟩; have hL := (h.lq.keepA hk1).la; have f36 := hL.frozen 36; have f37 := hL.frozen 37; have f38 := hL.frozen 38; have f39 := hL.frozen 39; have f40 := hL.frozen 40; have d36 := hL.c36; have d37 := hL.c37; have d38 := hL.c38; have d39 := hL.c39; have d40 := hL.c40; clear hL))
  have hQ := (h.lq.keepA hk1).start
  unfold wTok at hQ
  clear f36 f37 f38 f39 f40 d36 d37 d38 d39 d40 c36 c37 hk1 zz b2
  generalize ((((w1.setCell ⟨g, 36, none⟩ (.int .i32 (ps s l : Nat))).setCell ⟨g, 37, none⟩ (.int .i32 0)).setCell ⟨g, 38, none⟩ (.int .u16 0)).setCell ⟨g, 39, none⟩ (.int .u8 0)).setCell ⟨g, 40, none⟩ (.int .u8 0) = wt at hQ ⊢
  have c35 := hQ.la.c35
  have hsp : isSp (hd l) = true := by rw [hc]; rfl
  have hn : nextF l = ({ kind := 38 }, spaceF l, false) := nextF_space hsp
  have he : endF l = wsF l := by unfold endF; rw [if_pos hsp]
  have hcm : ¬ (hd l = 47 ∧ pk l 1 = 42) := by rw [hc]; exact fun e => absurd e.1 (by decide)
  have HT := Lib.hid hT
  have HC := Lib.hid hc
  have HSP := Lib.hid hsp
  rw [hc] at c35
  clear hc hT hsp
  go_wp2_with (fail)
  refine (step_la hQ.la).mono ?_
  rintro e w2 ⟨rfl, hA⟩
  have hQ2 := hQ.stepS hA
  clear hA
  have hsu := h.suf (tail_suf l)
  go_wp2_with (fail)
  go_loopg [] l.tail.length (fun n wr => WsK S B k w0 g s (ps s l) l n wr)
  case atStart => exact ⟨l.tail, tok0 r, lt, q, rfl, ws_tail HSP.out, toks_space HT.out HSP.out, ⟨hQ2, hsu.1, hsu.2, h.tok34⟩, rfl, rfl⟩
  case round =>
    obtain ⟨li, ri, lti, qi, hk, hw, hTi, hN, h38, h40⟩ := hrel
    have HK := Lib.hid hk
    have HW := Lib.hid hw
    have HTI := Lib.hid hTi
    have H38 := Lib.hid h38
    have H40 := Lib.hid h40
    clear hk hw hTi h38 h40 hQ2 hQ c35
    have e35 := hN.lq.la.c35
    have e33 := hN.lq.la.c33
    have e10 := hN.lq.la.c10
    have e36 := hN.lq.la.c36
    have e37 := hN.lq.la.c37
    cases hs2 : isSp (hd li) with
    | true =>
      have HS2 := Lib.hid hs2
      have HNE : Hid (li ≠ []) := Lib.hid (by rintro rfl; simp [isSp, isNL] at hs2)
      go_wp2_with (first | (go_at_call 34; refine (isWhitespace_calls _ _).mono ?_; rintro e w1 ⟨rfl, rfl⟩))
      refine (step_la hN.lq.la).mono ?_
      rintro e w3 ⟨rfl, hA⟩
      have hQ3 := hN.lq.stepS hA
      clear hA
      go_wp2_with (fail)
      have hsi := hN.suf (tail_suf li)
      go_roundg li.tail.length
      case measure => have := tail_lt' HNE.out; have := HK.out; unfold tailLt at *; omega
      case rel => exact ⟨li.tail, ri, lti, qi, rfl, (ws_tail HS2.out).trans HW.out, toks_space HTI.out HS2.out, ⟨hQ3, hsi.1, hsi.2, hN.i34⟩, H38.out, H40.out⟩
    | false =>
      have HS2 := Lib.hid hs2
      by_cases h47 : hd li = 47 ∧ pk li 1 = 42
      · obtain ⟨hc1, hc2⟩ := h47
        obtain ⟨R, hC, hcR, hTR⟩ := toks_close HTI.out hc1 hc2
        have HWR := Lib.hid (ws_cmt hc1 hc2 hC)
        rw [drop2] at hC
        have HTR := Lib.hid hTR
        have HCC := Lib.hid hC
        have HR : Hid (R <:+ li) := Lib.hid ((closeF_suf hC).trans ((List.tail_suffix _).trans (List.tail_suffix _)))
        have hlen := closeF_le hC
        have p1 := ps_tail_le hN.lq.la.sfx
        have p2 := ps_tail_le hN.lq.la.sfx.tl
        rw [pk_one] at hc2
        have hnt : li.tail ≠ [] := by intro e; rw [e] at hc2; exact absurd hc2 (by decide)
        have hll : li.tail.tail.length + 2 ≤ li.length := by
          cases li with
          | nil => exact absurd hc1 (by decide)
          | cons c t =>
            cases t with
            | nil => exact absurd rfl hnt
            | cons d t => simp
        have HQ2 := Lib.hid (hN.lts (n := 2) HR.out (by omega))
        have HLEN : Hid (R.length < li.length) := Lib.hid (by omega)
        have HAL : Hid (ps s li ≤ ps s li.tail.tail) := Lib.hid (by omega)
        obtain ⟨hi, hb⟩ := byte_tail hN.lq.la.sfx.tl hnt
        rw [(lead_42 hN.lq.la.sfx.tl hnt).2 hc2] at hb
        have hil : ((ps s li.tail : Nat) : Int) < s.size := by omega
        have hi0 : (0 : Int) ≤ (ps s li.tail : Nat) := by omega
        have k47 : (hd li == 47) = true := by rw [hc1]; rfl
        have hps2 : ps s li ≤ 1073741824 := Nat.le_trans (ps_le s li) hN.lq.la.size
        clear hc1 hcR hTR hC hnt hll hlen p1 p2 hc2
        go_wp2_with (first | (go_at_call 34; refine (isWhitespace_calls _ _).mono ?_; rintro e w1 ⟨rfl, rfl⟩))
        go_quiet (fail)
        have hKn : KeepA wr (wr.drewN nq) := (Keep.refl _ _).drewN nq
        have hQn := hN.lq.keepA hKn
        have e36 := hQn.la.c36
        have e37 := hQn.la.c37
        go_upto_region 35 with (first | (go_at_call 24; refine (End_at _ _ hps2 _).mono ?_; rintro e w1 ⟨rfl, hK1⟩))
        have hQ1 := hQn.keepA hK1
        have hKb : KeepA w1 (w1.alloc (.cells #[.int .i32 (ps s li : Nat), .int .i32 2] 50)) := (Keep.refl _ _).alloc _
        have hB : (w1.alloc (.cells #[.int .i32 (ps s li : Nat), .int .i32 2] 50)).heap[w1.heap.size]? = some (.cells #[.int .i32 (ps s li : Nat), .int .i32 2] 50 (0, 0)) := alloc_at _ rfl
        have hQb := hQ1.keepA hKb
        have hXg : w1.heap.size ≠ g := by have := hQ1.la.lt; omega
        clear hQ1 hKb hQn hKn e36 e37
        obtain ⟨wb, hwb⟩ : ∃ x, w1.alloc (.cells #[.int .i32 (ps s li : Nat), .int .i32 2] 50) = x := ⟨_, rfl⟩
        obtain ⟨X, hX⟩ : ∃ x, w1.heap.size = x := ⟨_, rfl⟩
        rw [hwb] at hQb hB ⊢
        rw [hX] at hB hXg ⊢
        clear hwb hX
        go_wp2_with (fail)
        refine (step_la hQb.la).mono ?_
        rintro e w4 ⟨rfl, hA4⟩
        have hQ4 := hQb.stepS hA4
        have hB4 := hA4.kp.blk hB hXg
        clear hQb hB hA4
        go_wp2_with (fail)
        refine (step_la hQ4.la).mono ?_
        rintro e w5 ⟨rfl, hA5⟩
        have hQ5 := hQ4.stepS hA5
        have hB5 := hA5.kp.blk hB4 hXg
        clear hQ4 hB4 hA5
        have y0 : w5.cell? ⟨X, 0, none⟩ = some (.int .i32 (ps s li : Nat)) := (blk_cell hB5 0).trans rfl
        have y1 : w5.cell? ⟨X, 1, none⟩ = some (.int .i32 2) := (blk_cell hB5 1).trans rfl
        go_wp2_with (fail)
        refine (consumeToEnd_lq hQ5 hN.q HCC.out HAL.out 2 (by decide)).mono ?_
        rintro e w6 ⟨rfl, r6, hQ6, hO6⟩
        go_wp2_with (fail)
        go_roundg R.length
        case measure => have := HLEN.out; have := HK.out; omega
        case rel =>
          obtain ⟨x, hx⟩ := hN.i34
          exact ⟨R, r6, lti, qi + 2, rfl, HWR.out.trans HW.out, HTR.out, ⟨hQ6, HQ2.out, HR.out.trans hN.hs, x, by rw [hO6 34 (by omega)]; exact hx⟩, by rw [hO6 38 (by omega)]; exact H38.out, by rw [hO6 40 (by omega)]; exact H40.out⟩
      · have HE : Hid (endF l = li) := Lib.hid (by rw [he, ← HW.out]; exact ws_end HS2.out h47)
        by_cases h1 : hd li = 47
        · have k47 : (hd li == 47) = true := by rw [h1]; rfl
          by_cases hi : ps s li.tail < s.size
          · have hnt := ps_all hi
            obtain ⟨hi', hb⟩ := byte_tail hN.lq.la.sfx.tl hnt
            have hb2 : ((s[ps s li.tail]'hi').toNat : Int) ≠ 42 := by
              rw [hb]
              intro e
              exact h47 ⟨h1, by rw [pk_one]; exact (lead_42 hN.lq.la.sfx.tl hnt).1 e⟩
            have kb : (((s[ps s li.tail]'hi').toNat : Int) == 42) = false := by simp only [beq_eq_false_iff_ne]; exact hb2
            have hil : ((ps s li.tail : Nat) : Int) < s.size := by omega
            have hi0 : (0 : Int) ≤ (ps s li.tail : Nat) := by omega
            clear h47 h1 hb hb2
            have d39 := hN.lq.la.c39
            have f39 := hN.lq.la.frozen 39
            go_wp2_with (first | (go_at_call 34; refine (isWhitespace_calls _ _).mono ?_; rintro e w1 ⟨rfl, rfl⟩))
            go_quiet (fail)
            have hKn : KeepA wr (wr.drewN nq) := (Keep.refl _ _).drewN nq
            have hQn := hN.lq.keepA hKn
            have d39 := hQn.la.c39
            have f39 := hQn.la.frozen 39
            go_wp2_with (fail)
            exact NxR.one hQn H38.out H40.out hN.i34 hcm HE.out (by rw [hn]) (by rw [hn]) (by rw [hn]) hN.hq hN.hs ⟨rfl, rfl, rfl⟩
          · have hil : ¬ ((ps s li.tail : Nat) : Int) < s.size := by omega
            have heq : ps s li.tail = s.size := by have := ps_le s li.tail; omega
            rw [heq] at e33
            clear hil heq
            have hil : ¬ (s.size : Int) < s.size := by omega
            have hil2 : decide ((s.size : Int) < s.size) = false := decide_eq_false hil
            clear h47 h1 hi
            have d39 := hN.lq.la.c39
            have f39 := hN.lq.la.frozen 39
            go_wp2_with (first | (go_at_call 34; refine (isWhitespace_calls _ _).mono ?_; rintro e w1 ⟨rfl, rfl⟩))
            go_quiet (fail)
            have hKn : KeepA wr (wr.drewN nq) := (Keep.refl _ _).drewN nq
            have hQn := hN.lq.keepA hKn
            have d39 := hQn.la.c39
            have f39 := hQn.la.frozen 39
            go_wp2_with (fail)
            exact NxR.one hQn H38.out H40.out hN.i34 hcm HE.out (by rw [hn]) (by rw [hn]) (by rw [hn]) hN.hq hN.hs ⟨rfl, rfl, rfl⟩
        · have k47 : (hd li == 47) = false := by simp [h1]
          clear h47 h1
          have d39 := hN.lq.la.c39
          have f39 := hN.lq.la.frozen 39
          go_wp2_with (first | (go_at_call 34; refine (isWhitespace_calls _ _).mono ?_; rintro e w1 ⟨rfl, rfl⟩))
          go_quiet (fail)
          have hKn : KeepA wr (wr.drewN nq) := (Keep.refl _ _).drewN nq
          have hQn := hN.lq.keepA hKn
          have d39 := hQn.la.c39
          have f39 := hQn.la.frozen 39
          go_wp2_with (fail)
          exact NxR.one hQn H38.out H40.out hN.i34 hcm HE.out (by rw [hn]) (by rw [hn]) (by rw [hn]) hN.hq hN.hs ⟨rfl, rfl, rfl⟩
set_option maxRecDepth 1000000 in
set_option maxHeartbeats 16000000 in
theorem nx_ws12 {S : Nat → Prop} {B : Nat} {k : LK} {w0 w : World} {g : Nat} {s : ByteArray} {r : Nat → Value} {st : Nat} {l lt : List Int} {q : Nat} (h : NQ S B k w0 w g s r st l lt q) (hc : hd l = 12) (hT : (toks l).2 = false) (f : Nat → Value) :
    Code.wp Tryz.prog nxBody (NxR S B k w0 g s l) ⟨fr592 (.pointer (some ⟨g, 0, none⟩)) f, []⟩ w := by
  unfold fr592
  conv => arg 2; whnf
  have c36 := h.lq.la.c36
  have c37 := h.lq.la.c37
  have hps := ps_le s l
  have hsz := h.lq.la.size
  have zz : (st : Int) + ((ps s l : Int) - st) = (ps s l : Nat) := by omega
  have b2 : ((ps s l : Nat) : Int) ≤ 2147483647 := by omega
  go_upto_region 1 with (first | (go_at_call 24; refine (End_at _ _ (by omega) _).mono ?_; rintro e w1 ⟨rfl, hk1⟩; have hL := (h.lq.keepA hk1).la; have f36 := hL.frozen 36; have f37 := hL.frozen 37; have f38 := hL.frozen 38; have f39 := hL.frozen 39; have f40 := hL.frozen 40; have d36 := hL.c36; have d37 := hL.c37; have d38 := hL.c38; have d39 := hL.c39; have d40 := hL.c40; clear hL))
  have hQ := (h.lq.keepA hk1).start
  unfold wTok at hQ
  clear f36 f37 f38 f39 f40 d36 d37 d38 d39 d40 c36 c37 hk1 zz b2
  generalize ((((w1.setCell ⟨g, 36, none⟩ (.int .i32 (ps s l : Nat))).setCell ⟨g, 37, none⟩ (.int .i32 0)).setCell ⟨g, 38, none⟩ (.int .u16 0)).setCell ⟨g, 39, none⟩ (.int .u8 0)).setCell ⟨g, 40, none⟩ (.int .u8 0) = wt at hQ ⊢
  have c35 := hQ.la.c35
  have hsp : isSp (hd l) = true := by rw [hc]; rfl
  have hn : nextF l = ({ kind := 38 }, spaceF l, false) := nextF_space hsp
  have he : endF l = wsF l := by unfold endF; rw [if_pos hsp]
  have hcm : ¬ (hd l = 47 ∧ pk l 1 = 42) := by rw [hc]; exact fun e => absurd e.1 (by decide)
  have HT := Lib.hid hT
  have HC := Lib.hid hc
  have HSP := Lib.hid hsp
  rw [hc] at c35
  clear hc hT hsp
  go_wp2_with (fail)
  refine (step_la hQ.la).mono ?_
  rintro e w2 ⟨rfl, hA⟩
  have hQ2 := hQ.stepS hA
  clear hA
  have hsu := h.suf (tail_suf l)
  go_wp2_with (fail)
  go_loopg [] l.tail.length (fun n wr => WsK S B k w0 g s (ps s l) l n wr)
  case atStart => exact ⟨l.tail, tok0 r, lt, q, rfl, ws_tail HSP.out, toks_space HT.out HSP.out, ⟨hQ2, hsu.1, hsu.2, h.tok34⟩, rfl, rfl⟩
  case round =>
    obtain ⟨li, ri, lti, qi, hk, hw, hTi, hN, h38, h40⟩ := hrel
    have HK := Lib.hid hk
    have HW := Lib.hid hw
    have HTI := Lib.hid hTi
    have H38 := Lib.hid h38
    have H40 := Lib.hid h40
    clear hk hw hTi h38 h40 hQ2 hQ c35
    have e35 := hN.lq.la.c35
    have e33 := hN.lq.la.c33
    have e10 := hN.lq.la.c10
    have e36 := hN.lq.la.c36
    have e37 := hN.lq.la.c37
    cases hs2 : isSp (hd li) with
    | true =>
      have HS2 := Lib.hid hs2
      have HNE : Hid (li ≠ []) := Lib.hid (by rintro rfl; simp [isSp, isNL] at hs2)
      go_wp2_with (first | (go_at_call 34; refine (isWhitespace_calls _ _).mono ?_; rintro e w1 ⟨rfl, rfl⟩))
      refine (step_la hN.lq.la).mono ?_
      rintro e w3 ⟨rfl, hA⟩
      have hQ3 := hN.lq.stepS hA
      clear hA
      go_wp2_with (fail)
      have hsi := hN.suf (tail_suf li)
      go_roundg li.tail.length
      case measure => have := tail_lt' HNE.out; have := HK.out; unfold tailLt at *; omega
      case rel => exact ⟨li.tail, ri, lti, qi, rfl, (ws_tail HS2.out).trans HW.out, toks_space HTI.out HS2.out, ⟨hQ3, hsi.1, hsi.2, hN.i34⟩, H38.out, H40.out⟩
    | false =>
      have HS2 := Lib.hid hs2
      by_cases h47 : hd li = 47 ∧ pk li 1 = 42
      · obtain ⟨hc1, hc2⟩ := h47
        obtain ⟨R, hC, hcR, hTR⟩ := toks_close HTI.out hc1 hc2
        have HWR := Lib.hid (ws_cmt hc1 hc2 hC)
        rw [drop2] at hC
        have HTR := Lib.hid hTR
        have HCC := Lib.hid hC
        have HR : Hid (R <:+ li) := Lib.hid ((closeF_suf hC).trans ((List.tail_suffix _).trans (List.tail_suffix _)))
        have hlen := closeF_le hC
        have p1 := ps_tail_le hN.lq.la.sfx
        have p2 := ps_tail_le hN.lq.la.sfx.tl
        rw [pk_one] at hc2
        have hnt : li.tail ≠ [] := by intro e; rw [e] at hc2; exact absurd hc2 (by decide)
        have hll : li.tail.tail.length + 2 ≤ li.length := by
          cases li with
          | nil => exact absurd hc1 (by decide)
          | cons c t =>
            cases t with
            | nil => exact absurd rfl hnt
            | cons d t => simp
        have HQ2 := Lib.hid (hN.lts (n := 2) HR.out (by omega))
        have HLEN : Hid (R.length < li.length) := Lib.hid (by omega)
        have HAL : Hid (ps s li ≤ ps s li.tail.tail) := Lib.hid (by omega)
        obtain ⟨hi, hb⟩ := byte_tail hN.lq.la.sfx.tl hnt
        rw [(lead_42 hN.lq.la.sfx.tl hnt).2 hc2] at hb
        have hil : ((ps s li.tail : Nat) : Int) < s.size := by omega
        have hi0 : (0 : Int) ≤ (ps s li.tail : Nat) := by omega
        have k47 : (hd li == 47) = true := by rw [hc1]; rfl
        have hps2 : ps s li ≤ 1073741824 := Nat.le_trans (ps_le s li) hN.lq.la.size
        clear hc1 hcR hTR hC hnt hll hlen p1 p2 hc2
        go_wp2_with (first | (go_at_call 34; refine (isWhitespace_calls _ _).mono ?_; rintro e w1 ⟨rfl, rfl⟩))
        go_quiet (fail)
        have hKn : KeepA wr (wr.drewN nq) := (Keep.refl _ _).drewN nq
        have hQn := hN.lq.keepA hKn
        have e36 := hQn.la.c36
        have e37 := hQn.la.c37
        go_upto_region 35 with (first | (go_at_call 24; refine (End_at _ _ hps2 _).mono ?_; rintro e w1 ⟨rfl, hK1⟩))
        have hQ1 := hQn.keepA hK1
        have hKb : KeepA w1 (w1.alloc (.cells #[.int .i32 (ps s li : Nat), .int .i32 2] 50)) := (Keep.refl _ _).alloc _
        have hB : (w1.alloc (.cells #[.int .i32 (ps s li : Nat), .int .i32 2] 50)).heap[w1.heap.size]? = some (.cells #[.int .i32 (ps s li : Nat), .int .i32 2] 50 (0, 0)) := alloc_at _ rfl
        have hQb := hQ1.keepA hKb
        have hXg : w1.heap.size ≠ g := by have := hQ1.la.lt; omega
        clear hQ1 hKb hQn hKn e36 e37
        obtain ⟨wb, hwb⟩ : ∃ x, w1.alloc (.cells #[.int .i32 (ps s li : Nat), .int .i32 2] 50) = x := ⟨_, rfl⟩
        obtain ⟨X, hX⟩ : ∃ x, w1.heap.size = x := ⟨_, rfl⟩
        rw [hwb] at hQb hB ⊢
        rw [hX] at hB hXg ⊢
        clear hwb hX
        go_wp2_with (fail)
        refine (step_la hQb.la).mono ?_
        rintro e w4 ⟨rfl, hA4⟩
        have hQ4 := hQb.stepS hA4
        have hB4 := hA4.kp.blk hB hXg
        clear hQb hB hA4
        go_wp2_with (fail)
        refine (step_la hQ4.la).mono ?_
        rintro e w5 ⟨rfl, hA5⟩
        have hQ5 := hQ4.stepS hA5
        have hB5 := hA5.kp.blk hB4 hXg
        clear hQ4 hB4 hA5
        have y0 : w5.cell? ⟨X, 0, none⟩ = some (.int .i32 (ps s li : Nat)) := (blk_cell hB5 0).trans rfl
        have y1 : w5.cell? ⟨X, 1, none⟩ = some (.int .i32 2) := (blk_cell hB5 1).trans rfl
        go_wp2_with (fail)
        refine (consumeToEnd_lq hQ5 hN.q HCC.out HAL.out 2 (by decide)).mono ?_
        rintro e w6 ⟨rfl, r6, hQ6, hO6⟩
        go_wp2_with (fail)
        go_roundg R.length
        case measure => have := HLEN.out; have := HK.out; omega
        case rel =>
          obtain ⟨x, hx⟩ := hN.i34
          exact ⟨R, r6, lti, qi + 2, rfl, HWR.out.trans HW.out, HTR.out, ⟨hQ6, HQ2.out, HR.out.trans hN.hs, x, by rw [hO6 34 (by omega)]; exact hx⟩, by rw [hO6 38 (by omega)]; exact H38.out, by rw [hO6 40 (by omega)]; exact H40.out⟩
      · have HE : Hid (endF l = li) := Lib.hid (by rw [he, ← HW.out]; exact ws_end HS2.out h47)
        by_cases h1 : hd li = 47
        · have k47 : (hd li == 47) = true := by rw [h1]; rfl
          by_cases hi : ps s li.tail < s.size
          · have hnt := ps_all hi
            obtain ⟨hi', hb⟩ := byte_tail hN.lq.la.sfx.tl hnt
            have hb2 : ((s[ps s li.tail]'hi').toNat : Int) ≠ 42 := by
              rw [hb]
              intro e
              exact h47 ⟨h1, by rw [pk_one]; exact (lead_42 hN.lq.la.sfx.tl hnt).1 e⟩
            have kb : (((s[ps s li.tail]'hi').toNat : Int) == 42) = false := by simp only [beq_eq_false_iff_ne]; exact hb2
            have hil : ((ps s li.tail : Nat) : Int) < s.size := by omega
            have hi0 : (0 : Int) ≤ (ps s li.tail : Nat) := by omega
            clear h47 h1 hb hb2
            have d39 := hN.lq.la.c39
            have f39 := hN.lq.la.frozen 39
            go_wp2_with (first | (go_at_call 34; refine (isWhitespace_calls _ _).mono ?_; rintro e w1 ⟨rfl, rfl⟩))
            go_quiet (fail)
            have hKn : KeepA wr (wr.drewN nq) := (Keep.refl _ _).drewN nq
            have hQn := hN.lq.keepA hKn
            have d39 := hQn.la.c39
            have f39 := hQn.la.frozen 39
            go_wp2_with (fail)
            exact NxR.one hQn H38.out H40.out hN.i34 hcm HE.out (by rw [hn]) (by rw [hn]) (by rw [hn]) hN.hq hN.hs ⟨rfl, rfl, rfl⟩
          · have hil : ¬ ((ps s li.tail : Nat) : Int) < s.size := by omega
            have heq : ps s li.tail = s.size := by have := ps_le s li.tail; omega
            rw [heq] at e33
            clear hil heq
            have hil : ¬ (s.size : Int) < s.size := by omega
            have hil2 : decide ((s.size : Int) < s.size) = false := decide_eq_false hil
            clear h47 h1 hi
            have d39 := hN.lq.la.c39
            have f39 := hN.lq.la.frozen 39
            go_wp2_with (first | (go_at_call 34; refine (isWhitespace_calls _ _).mono ?_; rintro e w1 ⟨rfl, rfl⟩))
            go_quiet (fail)
            have hKn : KeepA wr (wr.drewN nq) := (Keep.refl _ _).drewN nq
            have hQn := hN.lq.keepA hKn
            have d39 := hQn.la.c39
            have f39 := hQn.la.frozen 39
            go_wp2_with (fail)
            exact NxR.one hQn H38.out H40.out hN.i34 hcm HE.out (by rw [hn]) (by rw [hn]) (by rw [hn]) hN.hq hN.hs ⟨rfl, rfl, rfl⟩
        · have k47 : (hd li == 47) = false := by simp [h1]
          clear h47 h1
          have d39 := hN.lq.la.c39
          have f39 := hN.lq.la.frozen 39
          go_wp2_with (first | (go_at_call 34; refine (isWhitespace_calls _ _).mono ?_; rintro e w1 ⟨rfl, rfl⟩))
          go_quiet (fail)
          have hKn : KeepA wr (wr.drewN nq) := (Keep.refl _ _).drewN nq
          have hQn := hN.lq.keepA hKn
          have d39 := hQn.la.c39
          have f39 := hQn.la.frozen 39
          go_wp2_with (fail)
          exact NxR.one hQn H38.out H40.out hN.i34 hcm HE.out (by rw [hn]) (by rw [hn]) (by rw [hn]) hN.hq hN.hs ⟨rfl, rfl, rfl⟩
end Go.Proofs.YtedckphklebndaaGreatDoor
