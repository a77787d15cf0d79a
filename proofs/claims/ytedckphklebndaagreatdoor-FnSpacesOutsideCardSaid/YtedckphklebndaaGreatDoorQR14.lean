/- The package's consumeToEndOfMultiLineComment, walked. Conditions: those of the lexer in memory with its log (LQ); the comment ends. -/
import Derived.Test.YtedckphklebndaaGreatDoorQR14a
import Derived.Outline
namespace Go.Proofs.YtedckphklebndaaGreatDoor
open Go Go.RowKit
set_option maxRecDepth 100000 in
set_option maxHeartbeats 16000000 in
theorem consumeToEnd_lq {S : Nat → Prop} {B : Nat} {k : LK} {w0 w : World} {g : Nat} {s : ByteArray} {r : Nat → Value} {st : Nat} {l lt : List Int} {q : Nat} (h : LQ S B k w0 w g s r st l lt q) (hq : q ≤ 1073741824) {R : List Int} (hC : closeF l = some R) {a : Nat} (ha : a ≤ ps s l) (b : Int) (_hb : -2147483648 ≤ b ∧ b ≤ 2147483647) :
    Calls Tryz.prog 75 #[.pointer (some ⟨g, 0, none⟩), .agg #[.int .i32 a, .int .i32 b]] w (EP S B k w0 g s r st R lt q) := by
  have hQ0 : LQ S B k w0 (w.alloc (.cells #[.int .i32 a, .int .i32 b] 50)) g s r st l lt q := h.keepA ((Keep.refl _ _).alloc _)
  have hH0 : (w.alloc (.cells #[.int .i32 a, .int .i32 b] 50)).heap[w.heap.size]? = some (.cells #[.int .i32 a, .int .i32 b] 50 (0, 0)) := alloc_at _ rfl
  have hHg : w.heap.size ≠ g := by have := h.la.lt; omega
  have hN17 : ∀ j, (r 17).ownBlock = some j → j < w.heap.size := by
    obtain ⟨n1, x1, o1, _, _⟩ := h.all
    exact fun j e => (o1.lt j e).2
  have c35 := hQ0.la.c35
  go_enter Tryz.func75, Tryz.ntmps75
  go_upto_region 1 with (fail)
  obtain ⟨wa, hwa⟩ : ∃ x, w.alloc (.cells #[.int .i32 a, .int .i32 b] 50) = x := ⟨_, rfl⟩
  obtain ⟨H, hH⟩ : ∃ x, w.heap.size = x := ⟨_, rfl⟩
  rw [hwa] at hQ0 hH0 c35 ⊢
  rw [hH] at hH0 hHg hN17 ⊢
  clear hwa hH h
  go_upto_block 0 with (fail)
  go_cut [4, 5] (fun v4 v5 wc => ∃ (u : Nat) (b5 : Bool), v4 = .int .i64 u ∧ v5 = .bool b5 ∧ SM s u l ∧ KeepA wa wc)
  case first =>
    by_cases hp : hd l = 35 ∨ hd l = 64
    · have hk : (hd l == 35) = true ∨ ((hd l == 35) = false ∧ (hd l == 64) = true) := by
        rcases hp with e | e
        · exact .inl (by rw [e]; rfl)
        · exact .inr ⟨by rw [e]; rfl, by rw [e]; rfl⟩
      have h42 : hd l ≠ 42 := by rcases hp with e | e <;> rw [e] <;> decide
      have h0 : l ≠ [] := by rintro rfl; rcases hp with e | e <;> simp at e
      clear hp
      have c10 := hQ0.la.c10
      have c33 := hQ0.la.c33
      have z1 := ps_le s l.tail
      have z2 : ps s l.tail ≤ 1073741824 := Nat.le_trans z1 hQ0.la.size
      have z3 : (0 : Int) ≤ ps s l.tail := by omega
      have z4 : (ps s l.tail : Int) ≤ s.size := by omega
      rcases hk with k1 | ⟨k1, k2⟩
      all_goals
        go_wp2_with fail
        go_quiet ((go_at_call 103; exact Calls.quiet_of_same (Tryz.strings_HasPrefix _ _ _)))
        cases hpx : Lib.hasPrefix (s.extract (ps s l.tail) s.size).data.toList [32, 115, 111, 117, 114, 99, 101, 77, 97, 112, 112, 105, 110, 103, 85, 82, 76, 61] with
        | true =>
          have HSM : Hid (SM s (ps s l.tail + 18) l) := Lib.hid (SM.begin hQ0.la.sfx h0 h42 hpx)
          go_wp2_with fail
          go_meet
          case rel => exact ⟨ps s l.tail + 18, false, (by simp), rfl, HSM.out, (Keep.refl _ _).drewN _⟩
        | false =>
          go_wp2_with fail
          go_meet
          case rel => exact ⟨0, false, rfl, rfl, .inl rfl, (Keep.refl _ _).drewN _⟩
    · have k1 : (hd l == 35) = false := by simp only [beq_eq_false_iff_ne]; exact fun e => hp (.inl e)
      have k2 : (hd l == 64) = false := by simp only [beq_eq_false_iff_ne]; exact fun e => hp (.inr e)
      clear hp
      cases k3 : (hd l == 33) with
      | true =>
        go_wp2_with fail
        go_meet
        case rel => exact ⟨0, true, rfl, rfl, .inl rfl, Keep.refl _ _⟩
      | false =>
        go_wp2_with fail
        go_meet
        case rel => exact ⟨0, false, rfl, rfl, .inl rfl, Keep.refl _ _⟩
  case rest =>
    obtain ⟨u, b5, rfl, rfl, hsm, hkc⟩ := hcut
    have hQ1 := hQ0.keepA hkc
    have hH1 := hkc.blk hH0 (fun e => e)
    have HSM := Lib.hid hsm
    have HC := Lib.hid hC
    clear hQ0 hH0 hkc hsm hC c35
    go_wp2_with fail
    go_loopg [] l.length (fun n wr => EK S B k w0 g s r st R lt q H a b u n wr)
    case atStart => exact ⟨l, rfl, HC.out, ha, HSM.out, hQ1, hH1⟩
    case round =>
      obtain ⟨li, hk, hcl, hal, hsmi, hQ, hHi⟩ := hrel
      clear hQ1 hH1
      have hne : li ≠ [] := by rintro rfl; simp [closeF] at hcl
      have hm1 : (hd li == -1) = false := ne_eof hQ.la.sfx.all hne
      have HK := Lib.hid hk
      have HCL := Lib.hid hcl
      have HNE := Lib.hid hne
      have HLt := Lib.hid (tail_lt' hne)
      have HSMI := Lib.hid hsmi
      have hpt := ps_tail_le hQ.la.sfx
      have z1 := ps_le s li.tail
      have z2 : ps s li.tail ≤ 1073741824 := Nat.le_trans z1 hQ.la.size
      have HSX := Lib.hid hQ.la.sfx
      have c35 := hQ.la.c35
      have c33 := hQ.la.c33
      clear hk hcl hne hsmi
      by_cases h42 : hd li = 42
      · have k1 : (hd li == 42) = true := by simp [h42]
        have hps1 : ps s li.tail = ps s li + 1 := ps_ascii hQ.la.sfx (by omega) (by omega)
        have HPS := Lib.hid hps1
        have hUP : Hid (u ≤ ps s li) := Lib.hid (HSMI.out.star h42)
        have zw : IntKind.i64.wrap ((ps s li.tail : Int) - 1) = (ps s li : Nat) := by rw [IntKind.wrap_i64]; omega
        have H42 := Lib.hid h42
        clear h42 hps1
        go_wp2_with fail
        refine (step_la hQ.la).mono ?_
        rintro e w2 ⟨rfl, hA2⟩
        have hQ2 := hQ.stepS hA2
        have hH2 := hA2.kp.blk hHi hHg
        clear hA2 hQ hHi c35 c33 zw
        have d35 := hQ2.la.c35
        by_cases h47 : hd li.tail = 47
        · have k2 : (hd li.tail == 47) = true := by simp [h47]
          have hR : Hid (R = li.tail.tail) := Lib.hid (by
            have := HCL.out
            rw [closeF_hit H42.out (by rw [pk_one]; exact h47)] at this
            injection this with this
            rw [← this, drop2])
          have hpt2 := ps_tail_le hQ2.la.sfx
          have y1 := ps_le s li.tail.tail
          have y2 : ps s li.tail.tail ≤ 1073741824 := Nat.le_trans y1 hQ2.la.size
          have e33 := hQ2.la.c33
          clear h47
          go_wp2_with fail
          refine (step_la hQ2.la).mono ?_
          rintro e w3 ⟨rfl, hA3⟩
          have hQ3 := hQ2.stepS hA3
          have hH3 := hA3.kp.blk hH2 hHg
          clear hA3 hQ2 hH2 d35 e33
          rw [← hR.out] at hQ3 y1 y2 hpt2 ⊢
          go_upto_if 64 with (fail)
          go_cut [8, 9] (fun v8 v9 wc => ∃ r1 : Nat → Value, LQ S B k w0 wc g s r1 st R lt q ∧ Out 17 21 r r1 ∧ r1 17 = r 17 ∧ wc.heap[H]? = some (.cells #[.int .i32 a, .int .i32 b] 50 (0, 0)))
          case first => as_aux_lemma =>
            by_cases hu : u = 0
            · have k3 : ((u : Int) != 0) = false := by simp [hu]
              clear hu
              go_wp2_with fail
              go_meet
              case rel => exact ⟨r, hQ3, Out.refl _ _ _, rfl, hH3⟩
            · have k3 : ((u : Int) != 0) = true := by simp only [bne_iff_ne, ne_eq]; omega
              clear hu
              have c10 := hQ3.la.c10
              have hsz := hQ3.la.size
              have zu := hUP.out
              have zl : ps s li ≤ 1073741824 := by omega
              have zu2 : u ≤ 1073741824 := by omega
              have x0 : (0 : Int) ≤ u := by omega
              have x1 : (u : Int) ≤ (ps s li : Nat) := by omega
              have x2 : ((ps s li : Nat) : Int) ≤ s.size := by have := ps_le s li; omega
              have wz : IntKind.i32.wrap (u : Int) = u := by rw [IntKind.wrap_i32]; omega
              rw [k3]
              clear k3
              go_upto_region 20 with (fail)
              have hK4 : KeepA w3 (w3.alloc (.cells #[.int .i32 u, .int .i32 0] 50)) := (Keep.refl _ _).alloc _
              have hB4 : (w3.alloc (.cells #[.int .i32 u, .int .i32 0] 50)).heap[w3.heap.size]? = some (.cells #[.int .i32 u, .int .i32 0] 50 (0, 0)) := alloc_at _ rfl
              have d10 := hK4.cell (p := ⟨g, 10, none⟩) c10 (fun x => x)
              obtain ⟨w4, hw4⟩ : ∃ x, w3.alloc (.cells #[.int .i32 u, .int .i32 0] 50) = x := ⟨_, rfl⟩
              obtain ⟨X, hX⟩ : ∃ x, w3.heap.size = x := ⟨_, rfl⟩
              rw [hw4] at hK4 hB4 d10 ⊢
              rw [hX] at hB4 ⊢
              have hXX : w3.heap.size ≤ X := by omega
              have hgX : g ≠ X := by have := hQ3.la.lt; omega
              have hXg : X ≠ g := fun e => hgX e.symm
              clear hw4 hX
              obtain ⟨T, hT⟩ : ∃ T, s.extract u (ps s li) = T := ⟨_, rfl⟩
              have hTs : T.size ≤ 1073741824 := by rw [← hT]; exact Nat.le_trans (ext_size _ _ _) (by omega)
              go_upto_block 4 with (fail)
              (try rw [hT])
              clear hT c10 d10
              go_wp2_with fail
              go_loopg [] T.size (fun n wr => ∃ m, n = T.size - m ∧ m ≤ T.size ∧ KeepA w3 wr ∧ wr.heap[X]? = some (.cells #[.int .i32 u, .int .i32 m] 50 (0, 0)))
              case atStart => exact ⟨0, rfl, Nat.zero_le _, hK4, hB4⟩
              case round =>
                obtain ⟨m, hn, hm, hKr, hBr⟩ := hrel
                have HN := Lib.hid hn
                clear hn hK4 hB4
                have e0 : wr.cell? ⟨X, 0, none⟩ = some (.int .i32 u) := (blk_cell hBr 0).trans rfl
                have e1 : wr.cell? ⟨X, 1, none⟩ = some (.int .i32 m) := (blk_cell hBr 1).trans rfl
                by_cases hlt : m < T.size
                · have k5 : (m : Int) < T.size := by omega
                  have k6 : (0 : Int) ≤ m := by omega
                  go_wp2_with (fail)
                  refine (isWhitespace_calls _ _).mono ?_
                  rintro e w' ⟨rfl, rfl⟩
                  have k9 : (m : Int) ≤ T.size := by omega
                  cases hsp : isSp (wrap32 ↑T[m].toNat) with
                  | true =>
                    go_upto_region 23 with (fail)
                    have hQr := hQ3.keepA hKr
                    have hHr := hKr.blk hH3 (fun x => x)
                    have f1 := hQr.la.c19
                    have f2 := hQr.la.c20
                    have f3 := hQr.la.c21
                    have f4 := hQr.la.frozen 19
                    have f5 := hQr.la.frozen 20
                    have f6 := hQr.la.frozen 21
                    go_region_held3 (fun w' => w'.cell? ⟨X, 0, none⟩ = some (.int .i32 u) ∧ w'.cell? ⟨X, 1, none⟩ = some (.int .i32 m)) (go_keep) (fail)
                    all_goals
                      go_wp2_with fail
                      go_meet
                      case rel => exact ⟨_, (hQr.span _ _ _).keepA (Keep.refl _ _).drew, (((Out.refl 17 21 r).up (by omega) (by omega) _).up (by omega) (by omega) _).up (by omega) (by omega) _, by rw [up_other (by decide), up_other (by decide), up_other (by decide)], ((Keep.refl (fun _ => False) _).drew).blk (((((Keep.refl (fun k => k = g) _).setCell (fun _ => rfl) _).setCell (fun _ => rfl) _).setCell (fun _ => rfl) _).blk hHr hHg) (fun x => x)⟩

                  | false =>
                    have k7 : (m : Int) + 1 ≤ 1073741824 := by omega
                    have f7 := blk_frozen hBr 1
                    have hKs : KeepA w3 (wr.setCell ⟨X, 1, none⟩ (.int .i32 ((m : Int) + 1))) := hKr.setCell (fun x => by simp only at x; omega) _
                    have hBs : (wr.setCell ⟨X, 1, none⟩ (.int .i32 ((m : Int) + 1))).heap[X]? = some (.cells #[.int .i32 u, .int .i32 ((m : Int) + 1)] 50 (0, 0)) := (blk_set hBr 1 _).trans rfl
                    go_wp2_with (fail)
                    go_roundg (T.size - (m + 1))
                    case measure => have := HN.out; omega
                    case rel => exact ⟨m + 1, rfl, by omega, hKs, by rw [hBs]; rfl⟩
                · have k9 : (m : Int) ≤ T.size := by omega
                  have k6 : (0 : Int) ≤ m := by omega
                  have k5 : ¬ (m : Int) < T.size := by omega
                  go_upto_region 23 with (fail)
                  have hQr := hQ3.keepA hKr
                  have hHr := hKr.blk hH3 (fun x => x)
                  have f1 := hQr.la.c19
                  have f2 := hQr.la.c20
                  have f3 := hQr.la.c21
                  have f4 := hQr.la.frozen 19
                  have f5 := hQr.la.frozen 20
                  have f6 := hQr.la.frozen 21
                  go_region_held3 (fun w' => w'.cell? ⟨X, 0, none⟩ = some (.int .i32 u) ∧ w'.cell? ⟨X, 1, none⟩ = some (.int .i32 m)) (go_keep) (fail)
                  all_goals
                    go_wp2_with fail
                    go_meet
                    case rel => exact ⟨_, (hQr.span _ _ _).keepA (Keep.refl _ _).drew, (((Out.refl 17 21 r).up (by omega) (by omega) _).up (by omega) (by omega) _).up (by omega) (by omega) _, by rw [up_other (by decide), up_other (by decide), up_other (by decide)], ((Keep.refl (fun _ => False) _).drew).blk (((((Keep.refl (fun k => k = g) _).setCell (fun _ => rfl) _).setCell (fun _ => rfl) _).setCell (fun _ => rfl) _).blk hHr hHg) (fun x => x)⟩
          case rest => as_aux_lemma =>
            obtain ⟨r1, hQ5, hO1, h17', hH5⟩ := hcut
            have h17 := Lib.hid h17'
            clear hQ3 hH3 h17'
            have e0 : wc.cell? ⟨H, 0, none⟩ = some (.int .i32 a) := (blk_cell hH5 0).trans rfl
            have haR : Hid (a ≤ ps s R) := Lib.hid (by omega)
            have haRo := haR.out
            have ww1 : IntKind.i32.wrap ((ps s R : Nat) : Int) = (ps s R : Nat) := by rw [IntKind.wrap_i32]; omega
            have ww2 : IntKind.i32.wrap (((ps s R : Nat) : Int) - a) = ((ps s R : Nat) : Int) - a := by rw [IntKind.wrap_i32]; omega
            go_upto_region 25 with (fail)
            have hK6 : KeepA wc (wc.alloc (.cells #[.int .i32 a, .int .i32 (((ps s R : Nat) : Int) - a)] 50)) := (Keep.refl _ _).alloc _
            have hB6 : (wc.alloc (.cells #[.int .i32 a, .int .i32 (((ps s R : Nat) : Int) - a)] 50)).heap[wc.heap.size]? = some (.cells #[.int .i32 a, .int .i32 (((ps s R : Nat) : Int) - a)] 50 (0, 0)) := alloc_at _ rfl
            have hQ6 := hQ5.keepA hK6
            have hH6 := hK6.blk hH5 (fun x => x)
            have hNY : ∀ j, (r1 17).ownBlock = some j → j ≠ wc.heap.size := by
              obtain ⟨n1, x1, o1, _, _⟩ := hQ5.all
              exact fun j e => Nat.ne_of_lt (o1.lt j e).2
            clear hQ5 hK6 hH5 e0
            obtain ⟨w6, hw6⟩ : ∃ x, wc.alloc (.cells #[.int .i32 a, .int .i32 (((ps s R : Nat) : Int) - a)] 50) = x := ⟨_, rfl⟩
            obtain ⟨Y, hY⟩ : ∃ x, wc.heap.size = x := ⟨_, rfl⟩
            rw [hw6] at hB6 hQ6 hH6 ⊢
            rw [hY] at hB6 hNY ⊢
            clear hw6 hY
            have hYg : Y ≠ g := by
              obtain ⟨nl, _, _, hL6⟩ := hQ6.la.lx
              exact blk_ne hB6 hL6 (by decide)
            have e0 := hQ6.la.c0
            rw [hQ6.c0.1] at e0
            go_upto_if 118 with (fail)
            go_cut [] (fun wd => ∃ r2 : Nat → Value, LQ S B k w0 wd g s r2 st R lt (q + 1) ∧ Out 17 21 r r2 ∧ wd.heap[H]? = some (.cells #[.int .i32 a, .int .i32 b] 50 (0, 0)) ∧ wd.heap[Y]? = some (.cells #[.int .i32 a, .int .i32 (((ps s R : Nat) : Int) - a)] 50 (0, 0)))
            case first =>
              go_upto_region 26 with (fail)
              obtain ⟨n1, xs1, o1, m1, t1⟩ := hQ6.all
              obtain ⟨nl, _, _, hL6⟩ := hQ6.la.lx
              have y0 : w6.cell? ⟨Y, 0, none⟩ = some (.int .i32 a) := (blk_cell hB6 0).trans rfl
              have y1 : w6.cell? ⟨Y, 1, none⟩ = some (.int .i32 (((ps s R : Nat) : Int) - a)) := (blk_cell hB6 1).trans rfl
              have c17 := hQ6.la.c17
              have f17 := hQ6.la.frozen 17
              have lg := hQ6.la.lt
              have ly : Y < w6.heap.size := lt_of_blk hB6
              have ag : (r1 17).ownBlock ≠ some g := own_ne o1 hL6 (by decide)
              have hbs := hQ6.hB
              obtain ⟨i0, hi0, hz0, hz1, hz2⟩ := info_parts info50
              refine wp_mono (r14R26_at (P := Y) hB6 c17 f17 o1 (by omega) hbs lg hYg ag (fun e => hNY _ e rfl) _ rfl rfl rfl) ?_
              rintro e xa w9 ⟨rfl, gg, cap, w7, wq, h', rfl, hown7, hKD, hgrow, hat, rfl⟩
              simp only [List.getD_cons_zero, List.getD_cons_succ]
              have hQ7 := (hQ6.keepA hKD).row17 (Keep.of_grown hgrow (fun j => (r1 17).ownBlock = some j) (fun j e => e)) hown7 (q' := q + 1) (by omega) (by omega) (fun j e => by
                simp only [Value.ownBlock, Option.some.injEq] at e
                subst e
                rcases hat with h | h
                · exact .inl h
                · exact .inr h)
              have hH7 := (hKD.blk hH6 (fun x => x))
              have hH8 := (Keep.of_grown hgrow (fun j => (r1 17).ownBlock = some j) (fun j e => e)).blk hH7 (fun e => by rw [h17.out] at e; exact Nat.lt_irrefl _ (hN17 _ e))
              have hB8 := (Keep.of_grown hgrow (fun j => (r1 17).ownBlock = some j) (fun j e => e)).blk (hKD.blk hB6 (fun x => x)) (fun e => hNY _ e rfl)
              go_wp2_with fail
              go_meet
              case rel => exact ⟨_, hQ7, hO1.up (by omega) (by omega) _, ((Keep.refl (fun k => k = g) _).setCell (fun _ => rfl) _).blk hH8 hHg, ((Keep.refl (fun k => k = g) _).setCell (fun _ => rfl) _).blk hB8 hYg⟩
            case rest =>
              obtain ⟨r2, hQ7, hO2, hH7, hB7⟩ := hcut
              clear hQ6 hH6 hB6 hNY e0 ww1 ww2 haRo
              have e0 : wc.cell? ⟨H, 0, none⟩ = some (.int .i32 a) := (blk_cell hH7 0).trans rfl
              have e1 : wc.cell? ⟨Y, 0, none⟩ = some (.int .i32 a) := (blk_cell hB7 0).trans rfl
              have e2 : wc.cell? ⟨Y, 1, none⟩ = some (.int .i32 (((ps s R : Nat) : Int) - a)) := (blk_cell hB7 1).trans rfl
              have c10 := hQ7.la.c10
              have g1 : (0 : Int) ≤ a := by omega
              have g2 : (a : Int) ≤ (ps s R : Nat) := by have := haR.out; omega
              have g3 : ((ps s R : Nat) : Int) ≤ s.size := by omega
              go_wp2_with fail
              go_quiet (fail)
              have hKn : KeepA wc (wc.drewN nq) := (Keep.refl _ _).drewN nq
              have hQ8 := hQ7.keepA hKn
              have hH8 := hKn.blk hH7 (fun x => x)
              have hB8 := hKn.blk hB7 (fun x => x)
              clear hQ7 hH7 hB7 hKn e0 e1 e2 c10
              obtain ⟨T2, hT2⟩ : ∃ x, s.extract a (ps s R) = x := ⟨_, rfl⟩
              have hTs2 : T2.size ≤ 1073741824 := by rw [← hT2]; exact Nat.le_trans (ext_size _ _ _) (by omega)
              obtain ⟨we, hwe⟩ : ∃ x, wc.drewN nq = x := ⟨_, rfl⟩
              rw [hT2]
              rw [hwe] at hQ8 hH8 hB8 ⊢
              clear hT2 hwe
              go_upto_region 28 with (fail)
              go_cut [143] (fun v wd => ∃ bb : Bool, v = .bool bb ∧ KeepA we wd)
              case first =>
                cases b5 with
                | true =>
                  go_wp2_with fail
                  go_meet
                  case rel => exact ⟨_, rfl, Keep.refl _ _⟩
                | false =>
                  go_wp2_with fail
                  refine (containsAt_calls T2 (by omega) _).mono ?_
                  rintro e w' ⟨bb, rfl, hKb⟩
                  go_wp2_with fail
                  go_meet
                  case rel => exact ⟨_, rfl, hKb⟩
              case rest =>
                obtain ⟨bb, rfl, hKb⟩ := hcut
                have hQ9 := hQ8.keepA hKb
                have hH9 := hKb.blk hH8 (fun x => x)
                have hB9 := hKb.blk hB8 (fun x => x)
                clear hQ8 hH8 hB8 hKb
                cases bb with
                | false =>
                  go_wp2_with fail
                  go_end0
                  exact ⟨rfl, _, hQ9.more (by omega), hO2⟩
                | true =>
                  go_upto_region 29 with (fail)
                  have c10 := hQ9.la.c10
                  have e1 : wc.cell? ⟨Y, 0, none⟩ = some (.int .i32 a) := (blk_cell hB9 0).trans rfl
                  have e2 : wc.cell? ⟨Y, 1, none⟩ = some (.int .i32 (((ps s R : Nat) : Int) - a)) := (blk_cell hB9 1).trans rfl
                  have HSZ := Lib.hid hQ9.la.size
                  have HAR := haR
                  go_cut [11] (fun v wd => ∃ X2 : ByteArray, v = .string X2 ∧ KeepA wc wd)
                  case first =>
                    go_region_held3 (fun w' => w'.cell? ⟨g, 10, none⟩ = some (.string s) ∧ w'.cell? ⟨Y, 0, none⟩ = some (.int .i32 a) ∧ w'.cell? ⟨Y, 1, none⟩ = some (.int .i32 (((ps s R : Nat) : Int) - a))) (go_keep)
                      (first | (go_at_call 105; refine (CommentText_calls (hQ9.keepA (Keep.refl _ _).drew).la.c10 (hQ9.keepA (Keep.refl _ _).drew).la.tabs HAR.out (ps_le s R) HSZ.out).mono ?_; intro e w2 hCE; obtain ⟨X2, rfl, hk2⟩ := hCE; have z0 := hk2.cell (p := ⟨g, 10, none⟩) (hQ9.keepA (Keep.refl _ _).drew).la.c10 (fun x => x); have z1 := hk2.cell (p := ⟨Y, 0, none⟩) e1 (fun x => x); have z2 := hk2.cell (p := ⟨Y, 1, none⟩) e2 (fun x => x)))
                    all_goals
                      go_wp2_with fail
                      go_meet
                      case rel => exact ⟨_, rfl, (Keep.refl (fun _ => False) _).drew.trans hk2⟩
                  case rest =>
                    obtain ⟨X2, rfl, hKc⟩ := hcut
                    have hQ10 := hQ9.keepA hKc
                    have hH10 := hKc.blk hH9 (fun x => x)
                    clear hQ9 hH9 hB9 hKc c10 e1 e2
                    obtain ⟨n1, xs1, o1, m1, t1⟩ := hQ10.leg
                    obtain ⟨nl, _, _, hL6⟩ := hQ10.la.lx
                    have y0 : wc.cell? ⟨H, 0, none⟩ = some (.int .i32 a) := (blk_cell hH10 0).trans rfl
                    have c18 := hQ10.la.c18
                    have f18 := hQ10.la.frozen 18
                    have lg := hQ10.la.lt
                    have ly : H < wc.heap.size := lt_of_blk hH10
                    have ag : (r2 18).ownBlock ≠ some g := own_ne o1 hL6 (by decide)
                    have hbs := hQ10.hB
                    obtain ⟨i0, hi0, hz0, hz1, hz2⟩ := info_parts info122
                    go_upto_region 30 with (fail)
                    refine wp_mono (r14R30_at (P := H) (X2 := X2) hH10 c18 f18 o1 (by omega) hbs lg hHg ag (own_ne o1 hH10 (by decide)) _ rfl rfl rfl rfl) ?_
                    rintro e xa w9 ⟨rfl, gg, cap, w7, wq, h', rfl, hown7, hKD, hgrow, hat, rfl⟩
                    simp only [List.getD_cons_zero, List.getD_cons_succ]
                    have hQ11 := (hQ10.keepA hKD).row18 (Keep.of_grown hgrow (fun j => (r2 18).ownBlock = some j) (fun j e => e)) hown7 (q' := q + 2) (by omega) (by omega) (fun j e => by
                      simp only [Value.ownBlock, Option.some.injEq] at e
                      subst e
                      rcases hat with h | h
                      · exact .inl h
                      · exact .inr h) (fun u hu => by
                        rcases List.mem_append.1 hu with h | h
                        · exact t1.2 u h
                        · simp only [List.mem_cons, List.not_mem_nil, or_false] at h
                          rcases h with rfl | rfl | rfl <;> rfl)
                    go_wp2_with fail
                    go_end0
                    exact ⟨rfl, _, hQ11, hO2.up (by omega) (by omega) _⟩
        · have k2 : (hd li.tail == 47) = false := by simp [h47]
          have hcn : Hid (closeF li.tail = some R) := Lib.hid (by
            rw [← closeF_go (l := li) (by rw [pk_one]; exact fun x => h47 x.2)]; exact HCL.out)
          have hsn : Hid (SM s u li.tail) := Lib.hid (HSMI.out.tail HSX.out)
          clear h47
          go_wp2_with fail
          go_roundg li.tail.length
          case measure => have := HLt.out; have := HK.out; unfold tailLt at *; omega
          case rel => exact ⟨_, rfl, hcn.out, by omega, hsn.out, hQ2, hH2⟩
      · have k1 : (hd li == 42) = false := by simp [h42]
        have hcn : Hid (closeF li.tail = some R) := Lib.hid (by
          rw [← closeF_go (l := li) (fun x => h42 x.1)]; exact HCL.out)
        have hsn : Hid (SM s u li.tail) := Lib.hid (HSMI.out.tail hQ.la.sfx)
        clear h42
        go_wp2_with fail
        refine (step_la hQ.la).mono ?_
        rintro e w2 ⟨rfl, hA2⟩
        have hQ2 := hQ.stepS hA2
        have hH2 := hA2.kp.blk hHi hHg
        clear hA2 hQ hHi c35 c33
        go_wp2_with fail
        go_roundg li.tail.length
        case measure => have := HLt.out; have := HK.out; unfold tailLt at *; omega
        case rel => exact ⟨_, rfl, hcn.out, by omega, hsn.out, hQ2, hH2⟩
end Go.Proofs.YtedckphklebndaaGreatDoor
