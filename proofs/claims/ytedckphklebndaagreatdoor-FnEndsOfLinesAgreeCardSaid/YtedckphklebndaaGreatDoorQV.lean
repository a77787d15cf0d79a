/- The package's tests on what comes next, walked: isHex, isValidEscape, wouldStartIdentifier, wouldStartNumber. Conditions: those of the lexer in memory (LA). -/
import Derived.Test.YtedckphklebndaaGreatDoorQGX5
namespace Go.Proofs.YtedckphklebndaaGreatDoor
open Go Go.RowKit
theorem LX.c10 {w : World} {g : Nat} {s : ByteArray} {r : Nat → Value} {st : Nat} {l : List Int} {nl : Int} (h : LX w g s r st nl l) : w.cell? ⟨g, 10, none⟩ = some (.string s) := (blk_cell h 10).trans rfl
theorem LX.c32 {w : World} {g : Nat} {s : ByteArray} {r : Nat → Value} {st : Nat} {l : List Int} {nl : Int} (h : LX w g s r st nl l) : w.cell? ⟨g, 32, none⟩ = some (.int .i64 nl) := (blk_cell h 32).trans rfl
theorem LX.c33 {w : World} {g : Nat} {s : ByteArray} {r : Nat → Value} {st : Nat} {l : List Int} {nl : Int} (h : LX w g s r st nl l) : w.cell? ⟨g, 33, none⟩ = some (.int .i64 (ps s l.tail)) := (blk_cell h 33).trans rfl
theorem LX.c35 {w : World} {g : Nat} {s : ByteArray} {r : Nat → Value} {st : Nat} {l : List Int} {nl : Int} (h : LX w g s r st nl l) : w.cell? ⟨g, 35, none⟩ = some (.int .i32 (hd l)) := (blk_cell h 35).trans rfl
theorem LX.c36 {w : World} {g : Nat} {s : ByteArray} {r : Nat → Value} {st : Nat} {l : List Int} {nl : Int} (h : LX w g s r st nl l) : w.cell? ⟨g, 36, none⟩ = some (.int .i32 st) := (blk_cell h 36).trans rfl
theorem LX.c37 {w : World} {g : Nat} {s : ByteArray} {r : Nat → Value} {st : Nat} {l : List Int} {nl : Int} (h : LX w g s r st nl l) : w.cell? ⟨g, 37, none⟩ = some (.int .i32 ((ps s l : Int) - st)) := (blk_cell h 37).trans rfl
/-- What the lexer in memory lets one read. -/
theorem LA.c10 {w0 w : World} {g : Nat} {s : ByteArray} {r : Nat → Value} {st : Nat} {l : List Int} (h : LA w0 w g s r st l) : w.cell? ⟨g, 10, none⟩ = some (.string s) := by obtain ⟨_, _, _, hL⟩ := h.lx; exact hL.c10
theorem LA.c33 {w0 w : World} {g : Nat} {s : ByteArray} {r : Nat → Value} {st : Nat} {l : List Int} (h : LA w0 w g s r st l) : w.cell? ⟨g, 33, none⟩ = some (.int .i64 (ps s l.tail)) := by obtain ⟨_, _, _, hL⟩ := h.lx; exact hL.c33
theorem LA.c35 {w0 w : World} {g : Nat} {s : ByteArray} {r : Nat → Value} {st : Nat} {l : List Int} (h : LA w0 w g s r st l) : w.cell? ⟨g, 35, none⟩ = some (.int .i32 (hd l)) := by obtain ⟨_, _, _, hL⟩ := h.lx; exact hL.c35
theorem LA.c36 {w0 w : World} {g : Nat} {s : ByteArray} {r : Nat → Value} {st : Nat} {l : List Int} (h : LA w0 w g s r st l) : w.cell? ⟨g, 36, none⟩ = some (.int .i32 st) := by obtain ⟨_, _, _, hL⟩ := h.lx; exact hL.c36
theorem LA.c37 {w0 w : World} {g : Nat} {s : ByteArray} {r : Nat → Value} {st : Nat} {l : List Int} (h : LA w0 w g s r st l) : w.cell? ⟨g, 37, none⟩ = some (.int .i32 ((ps s l : Int) - st)) := by obtain ⟨_, _, _, hL⟩ := h.lx; exact hL.c37
theorem LA.lt {w0 w : World} {g : Nat} {s : ByteArray} {r : Nat → Value} {st : Nat} {l : List Int} (h : LA w0 w g s r st l) : g < w.heap.size := by obtain ⟨_, _, _, hL⟩ := h.lx; exact lt_of_blk hL
theorem LA.frozen {w0 w : World} {g : Nat} {s : ByteArray} {r : Nat → Value} {st : Nat} {l : List Int} (h : LA w0 w g s r st l) (k : Nat) : w.frozen? ⟨g, k, none⟩ = false := by obtain ⟨_, _, _, hL⟩ := h.lx; exact blk_frozen hL k
theorem LA.keep {w0 w w1 : World} {g : Nat} {s : ByteArray} {r : Nat → Value} {st : Nat} {l : List Int} {S : Nat → Prop} (h : LA w0 w g s r st l) (k : Keep S w w1) (hs : ∀ j, j < w.heap.size → S j → w0.heap.size ≤ j) (hg : ¬ S g) (h0 : ¬ S 0) (h1 : ¬ S 1) : LA w0 w1 g s r st l := by
  obtain ⟨nl, n0, n1, hL⟩ := h.lx
  refine ⟨⟨nl, n0, n1, k.blk hL hg⟩, h.sfx, h.kp.trans' k (fun j hj e => ?_), h.size, tabs_keep h.tabs k h0 h1, h.big, h.from_⟩
  have := hs j (Nat.lt_of_lt_of_le hj h.kp.size) e
  omega
theorem LA.keepA {w0 w w1 : World} {g : Nat} {s : ByteArray} {r : Nat → Value} {st : Nat} {l : List Int} (h : LA w0 w g s r st l) (k : KeepA w w1) : LA w0 w1 g s r st l := h.keep k (fun _ _ e => e.elim) (fun e => e) (fun e => e) (fun e => e)
theorem LA.now {w0 w : World} {g : Nat} {s : ByteArray} {r : Nat → Value} {st : Nat} {l : List Int} (h : LA w0 w g s r st l) : LA w w g s r st l := ⟨h.lx, h.sfx, Keep.refl _ _, h.size, h.tabs, h.big, h.from_⟩
theorem LA.from {w0 w w1 : World} {g : Nat} {s : ByteArray} {r r' : Nat → Value} {st : Nat} {l l' : List Int} (h : LA w0 w g s r st l) (k : LA w w1 g s r' st l') : LA w0 w1 g s r' st l' := ⟨k.lx, k.sfx, h.kp.trans k.kp, k.size, k.tabs, k.big, k.from_⟩
theorem rn_nl (t : List Int) : isNL (rn t) = isNL (hd t) := by
  cases t with
  | nil => rfl
  | cons c t => rfl
theorem strt0_hd {l : List Int} (h : RnAll l) : strt0 (hd l) = strt (hd l) := by
  cases l with
  | nil => rfl
  | cons c t =>
    have := h.head.1
    simp only [hd_cons, strt0, Bool.or_eq_left_iff_imp, beq_iff_eq]
    omega
theorem cont0_hd {l : List Int} (h : RnAll l) : cont0 (hd l) = cont (hd l) := by unfold cont0 cont; rw [strt0_hd h]
def hxv (c : Int) : Int := if 0 ≤ hexv c then hexv c else 0
def hxb (c : Int) : Bool := decide (0 ≤ hexv c)
theorem ret_hex {c a : Int} {b : Bool} (h : hexv c = if b then a else -1) (h0 : 0 ≤ a) (hb : b = false → a = 0) : Ending.returned (.tuple #[.int .i64 a, .bool b]) = .returned (.tuple #[.int .i64 (hxv c), .bool (hxb c)]) := by
  unfold hxv hxb
  cases b with
  | true => simp only [if_pos] at h; rw [h, if_pos h0, decide_eq_true h0]
  | false => simp only [Bool.false_eq_true, if_false] at h; rw [h, hb rfl, if_neg (by decide)]; rfl
set_option maxHeartbeats 1000000 in
theorem isHex_calls (c : Int) (w : World) : Calls Tryz.prog 61 #[.int .i32 c] w fun e w' => e = .returned (.tuple #[.int .i64 (hxv c), .bool (hxb c)]) ∧ w = w' := by
  by_cases h1 : 48 ≤ c ∧ c ≤ 57
  · obtain ⟨h2, h3⟩ := h1
    have HE : Hid (hexv c = c - 48) := Lib.hid (by unfold hexv; rw [if_pos ⟨h2, h3⟩])
    go_enter Tryz.func61, Tryz.ntmps61
    go_wp2
    go_ret2
    exact ⟨ret_hex HE.out (by omega) (fun e => by cases e), rfl⟩
  · by_cases h2 : 97 ≤ c ∧ c ≤ 102
    · have HE : Hid (hexv c = c - 87) := Lib.hid (by unfold hexv; rw [if_neg h1, if_pos h2])
      obtain ⟨h3, h4⟩ := h2
      clear h1
      go_enter Tryz.func61, Tryz.ntmps61
      go_wp2
      go_ret2
      exact ⟨ret_hex (by rw [HE.out]; rfl) (by omega) (fun e => by cases e), rfl⟩
    · by_cases h5 : 65 ≤ c ∧ c ≤ 70
      · have HE : Hid (hexv c = c - 55) := Lib.hid (by unfold hexv; rw [if_neg h1, if_neg h2, if_pos h5])
        obtain ⟨h3, h4⟩ := h5
        clear h1 h2
        go_enter Tryz.func61, Tryz.ntmps61
        go_wp2
        go_ret2
        exact ⟨ret_hex (by rw [HE.out]; rfl) (by omega) (fun e => by cases e), rfl⟩
      · have HE : Hid (hexv c = -1) := Lib.hid (by unfold hexv; rw [if_neg h1, if_neg h2, if_neg h5])
        have H1 := Lib.hid h1
        have H2 := Lib.hid h2
        have H5 := Lib.hid h5
        clear h1 h2 h5
        go_enter Tryz.func61, Tryz.ntmps61
        go_wp2
        all_goals first | (go_ret2; exact ⟨ret_hex HE.out (by omega) (fun _ => rfl), rfl⟩) | (exfalso; have := H1.out; have := H2.out; have := H5.out; omega)
theorem pk1_rn (l : List Int) : isNL (rn l.tail) = isNL (pk l 1) := by rw [rn_nl, pk_one]
set_option maxRecDepth 100000 in
set_option maxHeartbeats 1000000 in
theorem isValidEscape_la {w0 w : World} {g : Nat} {s : ByteArray} {r : Nat → Value} {st : Nat} {l : List Int} (h : LA w0 w g s r st l) :
    Calls Tryz.prog 80 #[.pointer (some ⟨g, 0, none⟩)] w fun e w' => e = .returned (.bool (escs (hd l) (pk l 1))) ∧ KeepA w w' := by
  have c10 := h.c10
  have c33 := h.c33
  have c35 := h.c35
  have b1 := ps_le s l.tail
  have b2 : ps s l.tail ≤ 1073741824 := Nat.le_trans b1 h.size
  by_cases h1 : hd l = 92
  · have k1 : (hd l == 92) = true := by simp [h1]
    have HE : Hid (escs (hd l) (pk l 1) = !isNL (rn l.tail)) := Lib.hid (by unfold escs; rw [k1, pk1_rn, Bool.true_and])
    clear h1
    go_enter Tryz.func80, Tryz.ntmps80
    go_wp2_with fail
    go_cut [3] (fun u3 wc => u3 = .int .i32 (rn l.tail) ∧ KeepA w wc)
    case first =>
      go_region_with (first | (go_at_call 59; refine (dec_sfx h.sfx.tl w.drew h.tabs).mono ?_; rintro e w1 ⟨rfl, hbel⟩))
      all_goals
        go_wp2_with fail
        go_meet
        case rel => exact ⟨rfl, (Keep.refl _ _).drew.trans (Keep.of_below hbel _)⟩
    case rest =>
      obtain ⟨rfl, hk⟩ := hcut
      go_wp2_with (go_at_call 76; refine (isNewlineI_calls _ _).mono ?_; rintro e w' ⟨rfl, rfl⟩)
      go_ret
      exact ⟨ret_bool HE.out.symm, hk⟩
  · have k1 : (hd l == 92) = false := by simp [h1]
    have HE : Hid (escs (hd l) (pk l 1) = false) := Lib.hid (by unfold escs; rw [k1, Bool.false_and])
    clear h1
    go_enter Tryz.func80, Tryz.ntmps80
    go_wp2_with fail
    go_ret
    exact ⟨ret_bool HE.out.symm, Keep.refl _ _⟩
theorem rn_cons {t : List Int} (h : t ≠ []) : rn t = hd t := if_neg h
theorem wide_rune {t : List Int} (h : t ≠ []) (e : hd t = 65533) : wdl t = 3 := by
  cases t with
  | nil => exact absurd rfl h
  | cons c t =>
    simp only [hd_cons] at e
    subst e
    rfl
set_option maxRecDepth 100000 in
set_option maxHeartbeats 4000000 in
theorem wouldStartIdentifier_la {w0 w : World} {g : Nat} {s : ByteArray} {r : Nat → Value} {st : Nat} {l : List Int} (h : LA w0 w g s r st l) :
    Calls Tryz.prog 81 #[.pointer (some ⟨g, 0, none⟩)] w fun e w' => e = .returned (.bool (idnt (hd l) (pk l 1) (pk l 2))) ∧ KeepA w w' := by
  have c10 := h.c10
  have c33 := h.c33
  have c35 := h.c35
  have b1 := ps_le s l.tail
  have b2 : ps s l.tail ≤ 1073741824 := Nat.le_trans b1 h.size
  have hs0 := strt0_hd h.sfx.all
  cases k0 : strt (hd l) with
  | true =>
    rw [k0] at hs0
    have HE : Hid (idnt (hd l) (pk l 1) (pk l 2) = true) := Lib.hid (by
      have h45 : hd l ≠ 45 := by intro e; rw [e] at k0; simp [strt] at k0
      unfold idnt; rw [if_neg h45, k0, Bool.true_or])
    clear k0
    go_enter Tryz.func81, Tryz.ntmps81
    go_wp2_with (go_at_call 30; refine (IsNameStart_calls _ _).mono ?_; rintro e w' ⟨rfl, rfl⟩)
    go_ret
    exact ⟨ret_bool HE.out.symm, Keep.refl _ _⟩
  | false =>
    rw [k0] at hs0
    by_cases h1 : hd l = 45
    · have k1 : (hd l == 45) = true := by simp [h1]
      have HE : Hid (idnt (hd l) (pk l 1) (pk l 2) = (strt (hd l.tail) || hd l.tail == 45 || escs (hd l.tail) (hd l.tail.tail))) := Lib.hid (by
        unfold idnt; rw [if_pos h1, pk_one, pk_two])
      clear h1 k0
      obtain ⟨t, ht⟩ : ∃ t, l.tail = t := ⟨_, rfl⟩
      have hS := h.sfx.tl
      have hb3 := ps_step hS
      have hb4 := ps_le s t.tail
      rw [ht] at c33 HE b1 b2 hS hb3
      have hb5 : ps s t + wdl t ≤ 1073741824 := by have := h.size; omega
      have hb6 : ps s t + wdl t ≤ s.size := by omega
      have hb7 : (ps s t : Int) + wdl t ≤ s.size := by omega
      have hb8 : 0 ≤ (ps s t : Int) + wdl t := by omega
      have hb9 : ((ps s t : Int) + wdl t).toNat = ps s t + wdl t := by omega
      have hb10 : IntKind.i64.wrap ((ps s t : Int) + wdl t) = (ps s t : Int) + wdl t := by rw [IntKind.wrap_i64]; omega
      have HP := Lib.hid hb3
      have hw4 := wdl_le t
      clear hb3 hb4
      go_enter Tryz.func81, Tryz.ntmps81
      go_wp2_with (go_at_call 30; refine (IsNameStart_calls _ _).mono ?_; rintro e w' ⟨rfl, rfl⟩)
      go_cut [3, 4] (fun u3 u4 wc => u3 = .int .i32 (rn t) ∧ u4 = .int .i64 (wdl t) ∧ KeepA w wc)
      case first =>
        go_region_with (first | (go_at_call 59; refine (dec_sfx hS w.drew h.tabs).mono ?_; rintro e w1 ⟨rfl, hbel⟩))
        all_goals
          go_wp2_with fail
          go_meet
          case rel => exact ⟨rfl, rfl, (Keep.refl _ _).drew.trans (Keep.of_below hbel _)⟩
      case rest =>
        obtain ⟨rfl, rfl, hk⟩ := hcut
        have hl1 := h.keepA hk
        have c10 := hl1.c10
        have c33 := hl1.c33
        rw [ht] at c33
        by_cases hn : t = []
        · have k2 : (rn t == 65533) = true := by rw [hn]; rfl
          have k3 : wdl t ≤ 1 := by rw [hn]; exact Nat.zero_le _
          have HF : Hid ((strt (hd t) || hd t == 45 || escs (hd t) (hd t.tail)) = false) := Lib.hid (by rw [hn]; rfl)
          clear hn
          go_wp2_with fail
          go_ret
          exact ⟨ret_bool (by rw [HE.out, HF.out]), hk⟩
        · have k2 : (hd t == 65533) = false ∨ ((hd t == 65533) = true ∧ 1 < wdl t) := by
            by_cases e : hd t = 65533
            · exact .inr ⟨by simp [e], by rw [wide_rune hn e]; decide⟩
            · exact .inl (by simp [e])
          have hr := rn_cons hn
          have hsA := strt0_hd hS.all
          rw [hr]
          have HN := Lib.hid hn
          clear hn
          cases hst : strt (hd t) with
          | true =>
            rw [hst] at hsA
            rcases k2 with k2 | ⟨k2, k3⟩
            all_goals
              go_wp2_with (go_at_call 30; refine (IsNameStart_calls _ _).mono ?_; rintro e w' ⟨rfl, rfl⟩)
              go_ret
              exact ⟨ret_bool (by rw [HE.out, hst]; rfl), hk⟩
          | false =>
            rw [hst] at hsA
            by_cases e1 : hd t = 45
            · have k4 : (hd t == 45) = true := by simp [e1]
              have k5 : (hd t == 65533) = false := by simp [e1]
              clear k2 e1
              go_wp2_with (go_at_call 30; refine (IsNameStart_calls _ _).mono ?_; rintro e w' ⟨rfl, rfl⟩)
              go_ret
              exact ⟨ret_bool (by rw [HE.out, hst, k4]; rfl), hk⟩
            · have k4 : (hd t == 45) = false := by simp [e1]
              clear e1
              by_cases e2 : hd t = 92
              · have k5 : (hd t == 65533) = false := by simp [e2]
                have k6 : (hd t == 92) = true := by simp [e2]
                have HX : Hid (escs (hd t) (hd t.tail) = !isNL (rn t.tail)) := Lib.hid (by unfold escs; rw [k6, rn_nl, Bool.true_and])
                have hdec := dec_sfx hS.tl wc.drew hl1.tabs
                rw [HP.out] at hdec
                clear k2 e2
                go_wp2_with (go_at_call 30; refine (IsNameStart_calls _ _).mono ?_; rintro e w' ⟨rfl, rfl⟩)
                go_cut [5] (fun u5 wc2 => u5 = .int .i32 (rn t.tail) ∧ KeepA wc wc2)
                case first =>
                  go_region_with (first | (go_at_call 59; refine hdec.mono ?_; rintro e w1 ⟨rfl, hbel⟩))
                  all_goals
                    go_wp2_with fail
                    go_meet
                    case rel => exact ⟨rfl, (Keep.refl _ _).drew.trans (Keep.of_below hbel _)⟩
                case rest =>
                  obtain ⟨rfl, hk2⟩ := hcut
                  go_wp2_with (go_at_call 76; refine (isNewlineI_calls _ _).mono ?_; rintro e w' ⟨rfl, rfl⟩)
                  go_ret
                  exact ⟨ret_bool (by rw [HE.out, hst, k4, HX.out]; rfl), hk.trans hk2⟩
              · have k6 : (hd t == 92) = false := by simp [e2]
                have HX : Hid (escs (hd t) (hd t.tail) = false) := Lib.hid (by unfold escs; rw [k6, Bool.false_and])
                clear e2
                rcases k2 with k2 | ⟨k2, k3⟩
                all_goals
                  go_wp2_with (go_at_call 30; refine (IsNameStart_calls _ _).mono ?_; rintro e w' ⟨rfl, rfl⟩)
                  go_ret
                  exact ⟨ret_bool (by rw [HE.out, hst, k4, HX.out]; rfl), hk⟩
    · have k1 : (hd l == 45) = false := by simp [h1]
      have HE : Hid (idnt (hd l) (pk l 1) (pk l 2) = escs (hd l) (pk l 1)) := Lib.hid (by unfold idnt; rw [if_neg h1, k0, Bool.false_or])
      clear h1 k0
      go_enter Tryz.func81, Tryz.ntmps81
      go_wp2_with (first | (go_at_call 30; refine (IsNameStart_calls _ _).mono ?_; rintro e w' ⟨rfl, rfl⟩) | (go_at_call 80; refine (isValidEscape_la h).mono ?_; rintro e w1 ⟨rfl, hk⟩))
      go_ret
      exact ⟨ret_bool HE.out.symm, hk⟩
/-- The byte that stands at a place. -/
theorem byte_hd {s : ByteArray} {t : List Int} (h : Sfx s t) (hn : t ≠ []) : ∀ hi : ps s t < s.size, (((s[ps s t]'hi).toNat : Nat) : Int) = lead (hd t) := fun hi => by
  cases t with
  | nil => exact absurd rfl hn
  | cons c t => exact byte_at h hi rfl
theorem lead_dg {t : List Int} (h : RnAll t) (hn : t ≠ []) : (isDg (hd t) = true → 48 ≤ lead (hd t) ∧ lead (hd t) ≤ 57) ∧ (isDg (hd t) = false → lead (hd t) < 48 ∨ 57 < lead (hd t)) ∧ (hd t = 46 → lead (hd t) = 46) ∧ (hd t ≠ 46 → lead (hd t) ≠ 46) := by
  cases t with
  | nil => exact absurd rfl hn
  | cons c t =>
    have hc := h.head
    simp only [hd_cons]
    by_cases h1 : c < 128
    · rw [lead_low h1]
      refine ⟨fun e => by simpa [isDg] using e, fun e => ?_, fun e => e, fun e => e⟩
      simp [isDg] at e
      omega
    · have := lead_high hc (by omega)
      refine ⟨fun e => ?_, fun _ => by omega, fun e => by omega, fun _ => by omega⟩
      simp [isDg] at e
      omega
theorem ps_lt' {s : ByteArray} {t : List Int} (h : Sfx s t) (hn : t ≠ []) : ps s t < s.size := by
  cases t with
  | nil => exact absurd rfl hn
  | cons c t => exact ps_lt h
set_option maxRecDepth 100000 in
set_option maxHeartbeats 4000000 in
theorem wouldStartNumber_la {w0 w : World} {g : Nat} {s : ByteArray} {r : Nat → Value} {st : Nat} {l : List Int} (h : LA w0 w g s r st l) :
    Calls Tryz.prog 83 #[.pointer (some ⟨g, 0, none⟩)] w fun e w' => e = .returned (.bool (cnts (hd l) (pk l 1) (pk l 2))) ∧ w = w' := by
  have c10 := h.c10
  have c33 := h.c33
  have c35 := h.c35
  have b1 := ps_le s l.tail
  have b2 : ps s l.tail ≤ 1073741824 := Nat.le_trans b1 h.size
  have hsz := h.size
  obtain ⟨t, ht⟩ : ∃ t, l.tail = t := ⟨_, rfl⟩
  have hS := h.sfx.tl
  rw [pk_one, pk_two]
  rw [ht] at c33 b1 b2 hS ⊢
  obtain ⟨a, ha⟩ : ∃ a, hd l = a := ⟨_, rfl⟩
  rw [ha] at c35 ⊢
  clear ha ht
  obtain ⟨R, hR⟩ : ∃ R, cnts a (hd t) (hd t.tail) = R := ⟨_, rfl⟩
  rw [hR]
  cases hda : isDg a with
  | true =>
    have hd1 : 48 ≤ a ∧ a ≤ 57 := by simpa [isDg] using hda
    have HE : Hid (R = true) := Lib.hid (by rw [← hR]; unfold cnts; rw [if_neg (by omega), hda, Bool.true_or])
    obtain ⟨d1, d2⟩ := hd1
    clear hda hR
    go_enter Tryz.func83, Tryz.ntmps83
    go_wp2_with fail
    go_ret
    exact ⟨ret_bool (by rw [HE.out]; first | done | rfl | (simp; omega)), rfl⟩
  | false =>
    have hd1 : a < 48 ∨ 57 < a := by simp [isDg] at hda; omega
    by_cases h46 : a = 46
    · have HE : Hid (R = isDg (hd t)) := Lib.hid (by rw [← hR]; unfold cnts; rw [if_neg (by omega), hda, h46]; simp)
      clear hda hd1 hR
      by_cases hn : t = []
      · have hp : ps s t = s.size := by rw [hn]; simp
        have HF : Hid (isDg (hd t) = false) := Lib.hid (by rw [hn]; rfl)
        clear hn
        go_enter Tryz.func83, Tryz.ntmps83
        go_wp2_with fail
        go_ret
        exact ⟨ret_bool (by rw [HE.out, HF.out]; first | done | rfl | (simp; omega)), rfl⟩
      · have hlt := ps_lt' hS hn
        have hby := byte_hd hS hn
        have hll := lead_dg hS.all hn
        obtain ⟨B, hB⟩ : ∃ B, lead (hd t) = B := ⟨_, rfl⟩
        rw [hB] at hby hll
        have HL := Lib.hid hll
        clear hn hll hB
        cases hdt : isDg (hd t) with
        | true =>
          obtain ⟨d1, d2⟩ := HL.out.1 hdt
          have HF := Lib.hid hdt
          clear hdt
          go_enter Tryz.func83, Tryz.ntmps83
          go_wp2_with fail
          go_ret
          exact ⟨ret_bool (by rw [HE.out, HF.out]; first | done | rfl | (simp; omega)), rfl⟩
        | false =>
          have HF := Lib.hid hdt
          have hd2 := HL.out.2.1 hdt
          clear hdt
          rcases hd2 with d1 | d1
          all_goals
            go_enter Tryz.func83, Tryz.ntmps83
            go_wp2_with fail
            go_ret
            exact ⟨ret_bool (by rw [HE.out, HF.out]; first | done | rfl | (simp; omega)), rfl⟩
    · by_cases hpm : a = 43 ∨ a = 45
      · have HE : Hid (R = (isDg (hd t) || hd t == 46 && isDg (hd t.tail))) := Lib.hid (by rw [← hR]; unfold cnts; rw [if_pos hpm])
        clear hda hd1 h46 hR
        by_cases hn : t = []
        · have hp : ps s t = s.size := by rw [hn]; simp
          have HF : Hid ((isDg (hd t) || hd t == 46 && isDg (hd t.tail)) = false) := Lib.hid (by rw [hn]; rfl)
          clear hn
          rcases hpm with h43 | h43
          all_goals
            go_enter Tryz.func83, Tryz.ntmps83
            go_wp2_with fail
            go_ret
            exact ⟨ret_bool (by rw [HE.out, HF.out]; first | done | rfl | (simp; omega)), rfl⟩
        · have hlt := ps_lt' hS hn
          have hby := byte_hd hS hn
          have hll := lead_dg hS.all hn
          obtain ⟨B, hB⟩ : ∃ B, lead (hd t) = B := ⟨_, rfl⟩
          rw [hB] at hby hll
          have HL := Lib.hid hll
          have HN := Lib.hid hn
          clear hn hll hB
          cases hdt : isDg (hd t) with
          | true =>
            obtain ⟨d1, d2⟩ := HL.out.1 hdt
            have HF := Lib.hid hdt
            clear hdt
            rcases hpm with h43 | h43
            all_goals
              go_enter Tryz.func83, Tryz.ntmps83
              go_wp2_with fail
              go_ret
              exact ⟨ret_bool (by rw [HE.out, HF.out]; first | done | rfl | (simp; omega)), rfl⟩
          | false =>
            have HF := Lib.hid hdt
            have hd2 := HL.out.2.1 hdt
            clear hdt
            by_cases h2 : hd t = 46
            · have hB2 := HL.out.2.2.1 h2
              have HG : Hid ((isDg (hd t) || hd t == 46 && isDg (hd t.tail)) = isDg (hd t.tail)) := Lib.hid (by rw [HF.out, h2]; simp)
              have hp1 : ps s t + 1 = ps s t.tail := (ps_ascii hS (by omega) (by omega)).symm
              have hp2 : (ps s t : Int) + 1 = (ps s t.tail : Nat) := by omega
              have hS2 := hS.tl
              clear hd2 h2 hp1
              by_cases hn2 : t.tail = []
              · have hp : ps s t.tail = s.size := by rw [hn2]; simp
                have HH : Hid (isDg (hd t.tail) = false) := Lib.hid (by rw [hn2]; rfl)
                clear hn2
                rcases hpm with h43 | h43
                all_goals
                  go_enter Tryz.func83, Tryz.ntmps83
                  go_wp2_with fail
                  go_ret
                  exact ⟨ret_bool (by rw [HE.out, HG.out, HH.out]; first | done | rfl | (simp; omega)), rfl⟩
              · have hlt2 := ps_lt' hS2 hn2
                have hby2 := byte_hd hS2 hn2
                have hll2 := lead_dg hS2.all hn2
                obtain ⟨B2, hB2⟩ : ∃ B, lead (hd t.tail) = B := ⟨_, rfl⟩
                rw [hB2] at hby2 hll2
                have HL2 := Lib.hid hll2
                clear hn2 hll2 hB2
                cases hdt2 : isDg (hd t.tail) with
                | true =>
                  obtain ⟨d1, d2⟩ := HL2.out.1 hdt2
                  have HH := Lib.hid hdt2
                  clear hdt2
                  rcases hpm with h43 | h43
                  all_goals
                    go_enter Tryz.func83, Tryz.ntmps83
                    go_wp2_with fail
                    go_ret
                    exact ⟨ret_bool (by rw [HE.out, HG.out, HH.out]; first | done | rfl | (simp; omega)), rfl⟩
                | false =>
                  have HH := Lib.hid hdt2
                  have hd3 := HL2.out.2.1 hdt2
                  clear hdt2
                  rcases hpm with h43 | h43
                  all_goals
                    rcases hd3 with d1 | d1
                    all_goals
                      go_enter Tryz.func83, Tryz.ntmps83
                      go_wp2_with fail
                      go_ret
                      exact ⟨ret_bool (by rw [HE.out, HG.out, HH.out]; first | done | rfl | (simp; omega)), rfl⟩
            · have hB3 := HL.out.2.2.2 h2
              have HG : Hid ((isDg (hd t) || hd t == 46 && isDg (hd t.tail)) = false) := Lib.hid (by rw [HF.out, show (hd t == 46) = false by simp [h2]]; rfl)
              have hB4 : (B == 46) = false := by simp [hB3]
              clear h2 hB3
              rcases hpm with h43 | h43
              all_goals
                rcases hd2 with d1 | d1
                all_goals
                  go_enter Tryz.func83, Tryz.ntmps83
                  go_wp2_with fail
                  go_ret
                  exact ⟨ret_bool (by rw [HE.out, HG.out]; first | done | rfl | (simp; omega)), rfl⟩
      · have k1 : (a == 46) = false := by simp [h46]
        have k2 : (a == 43) = false := by simp; exact fun e => hpm (.inl e)
        have k3 : (a == 45) = false := by simp; exact fun e => hpm (.inr e)
        have HE : Hid (R = false) := Lib.hid (by rw [← hR]; unfold cnts; rw [if_neg hpm, hda, k1]; rfl)
        clear hda h46 hpm hR
        rcases hd1 with d1 | d1
        all_goals
          go_enter Tryz.func83, Tryz.ntmps83
          go_wp2_with fail
          go_ret
          exact ⟨ret_bool (by rw [HE.out]; first | done | rfl | (simp; omega)), rfl⟩
end Go.Proofs.YtedckphklebndaaGreatDoor
