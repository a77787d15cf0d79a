/- The laws' Tokens, walked: the package's tokens as the laws see them. Conditions: those of Tokenize. -/
import Derived.Test.YtedckphklebndaaGreatDoorQGY8
import Derived.Test.YtedckphklebndaaGreatDoorQGY5
import Derived.Test.YtedckphklebndaaGreatDoorQGZ0
namespace Go.Proofs.YtedckphklebndaaGreatDoor
open Go Go.RowKit
/-- The loop of Tokens. -/
def TKL (w1 : World) (s : ByteArray) (dn : List ((Tok × List Int × List Int) × Int)) (n : Nat) (a i : Value) (w : World) : Prop :=
  ∃ (j : Nat) (O : List PT), i = .int .i64 (j : Nat) ∧ n = dn.length - j ∧ j ≤ dn.length ∧ Fa2 (PR s) ((dn.map Prod.fst).take j) O ∧ O.length = j ∧ Rw w w1.heap.size a O ∧ Below w1.heap.size w1 w
theorem fld54 (p : Option Addr) (n cp : Nat) (b c d e f x : Value) (w : World) : (Instr.field 54 (.agg #[.slice p n cp, b, c, d, e, f, x]) 0).run Tryz.prog w = .ok (.slice p n cp) w := by kernel_rfl
theorem lxC_get (s : ByteArray) (L : List ((Tok × List Int × List Int) × Int)) (j i : Nat) (p) (hj : L[j]? = some p) (hi : i < 5) : (L.flatMap (lxC s))[j * 5 + i]? = (lxC s p)[i]? := by
  induction L generalizing j with
  | nil => cases hj
  | cons q L ih =>
    have e : (q :: L).flatMap (lxC s) = lxC s q ++ L.flatMap (lxC s) := rfl
    have hl : (lxC s q).length = 5 := rfl
    cases j with
    | zero =>
      simp only [List.getElem?_cons_zero, Option.some.injEq] at hj
      subst hj
      rw [e, List.getElem?_append_left (by omega)]
      congr 1; omega
    | succ j =>
      rw [e, List.getElem?_append_right (by omega), hl, show (j + 1) * 5 + i - 5 = j * 5 + i by omega]
      exact ih j (by simpa using hj)
theorem lx_row {w : World} {B j : Nat} {v : Value} {s : ByteArray} {dn : List ((Tok × List Int × List Int) × Int)} (h : w.ownsRow B 60 5 v dn.length (dn.flatMap (lxC s))) (hj : j < dn.length) : ∃ (g cap : Nat) (cur : Array Value) (p : (Tok × List Int × List Int) × Int), v = .slice (some ⟨g, 0, none⟩) dn.length cap ∧ w.heap[g]? = some (.cells cur 60 (0, 0)) ∧ dn[j]? = some p ∧ ∀ i, i < 5 → cur[j * 5 + i]? = (lxC s p)[i]? := by
  rcases h.2 with ⟨rfl, hn⟩ | ⟨g, cap, cur, rfl, hb, hg, hc, hm, hs, ht⟩
  · omega
  · refine ⟨g, cap, cur, dn[j], rfl, hg, List.getElem?_eq_getElem hj, fun i hi => ?_⟩
    have e := lxC_get s dn j i _ (List.getElem?_eq_getElem hj) hi
    rw [← ht, List.getElem?_take_of_lt (by omega)] at e
    rw [← e]; simp
/-- What Tokens leaves. -/
def T12P (w : World) (s : ByteArray) (l : List Int) (e : Ending) (w' : World) : Prop := ∃ v L, e = .returned v ∧ Fa2 (PR s) (ptoks l) L ∧ Rw w' w.heap.size v L ∧ Below w.heap.size w w'
theorem Fa2.snoc {α β : Type} {R : α → β → Prop} {a : List α} {b : List β} {x : α} {y : β} (h : Fa2 R a b) (r : R x y) : Fa2 R (a ++ [x]) (b ++ [y]) := by
  induction h with
  | nil => exact .cons r .nil
  | cons h _ ih => exact .cons h ih
theorem TKL.push {w1 wb w3 : World} {s : ByteArray} {dn : List ((Tok × List Int × List Int) × Int)} {O : List PT} {p : PT} {j gg cap : Nat} {v : Value} {o : Obj} (hfa : Fa2 (PR s) ((dn.map Prod.fst).take (j + 1)) (O ++ [p])) (hol : O.length = j) (ho : w3.ownsRow w1.heap.size 28 6 (.slice (some ⟨gg, 0, none⟩) (O.length + 1) cap) (O.length + 1) (rowC O ++ [.int .i64 p.k, .int .i64 p.a, .int .i64 p.b, .int .i64 p.u, .bool p.id, .string p.t])) (hg : (wb.alloc o).grownBy w3 v.ownBlock)
    (hr : Rw wb w1.heap.size v O) (hb : Below w1.heap.size w1 wb) (hlt : j < dn.length) : TKL w1 s dn (dn.length - (j + 1)) (.slice (some ⟨gg, 0, none⟩) (O.length + 1) cap) (.int .i64 ((j : Int) + 1)) w3 := by
  have hw := hb.size
  refine ⟨j + 1, O ++ [p], by simp, rfl, by omega, hfa, by simp; omega, ?_, ?_⟩
  · unfold Rw
    rw [rowC_snoc, List.length_append]
    exact ho
  · refine (hb.alloc hb.size _).trans ((Keep.of_grown hg (fun k => v.ownBlock = some k) (fun k e => e)).below (by simp; omega) (fun k _ e => (hr.lt k e).1))
/-- A token's letters mean its text. -/
theorem tok_ltr {l : List Int} {t : Tok × List Int × List Int} (h : t ∈ ptoks l) (ho : (toks l).2 = false) : Ltr t.1 (lets t) := by
  obtain ⟨hne, _, hk, he, hop⟩ := mem_ptoks h ho
  have hu := lets_eq h ho
  have hlt := endF_lt hne
  rw [← he] at hlt
  have hu0 : lets t ≠ [] := by
    intro e
    rw [e] at hu
    rw [hu] at hlt
    simp at hlt
  cases hsp : isSp (hd t.2.1) with
  | true =>
    rw [hk, nextF_space hsp]
    exact Ltr.none (show (38 : Int) ≠ 29 ∧ (38 : Int) ≠ 1 ∧ (38 : Int) ≠ 28 ∧ (38 : Int) ≠ 27 ∧ (38 : Int) ≠ 36 ∧ (38 : Int) ≠ 37 by decide)
  | false =>
    have h3 : endF t.2.1 = (nextF t.2.1).2.1 := by unfold endF; rw [if_neg (by rw [hsp]; decide)]
    refine ltr_next hu0 (e := t.2.2) ?_
    rw [← hu]
    exact Prod.ext hk.symm (Prod.ext (by rw [he, h3]) hop)
theorem tok_wt {s : ByteArray} {l : List Int} {t : Tok × List Int × List Int} (hS : Sfx s l) (h : t ∈ ptoks l) (ho : (toks l).2 = false) : Wt (s.extract (ps s t.2.1) (ps s t.2.2)) (lets t) ∧ ps s t.2.1 ≤ ps s t.2.2 := by
  have hu := lets_eq h ho
  have hx := hS.suf (mem_ptoks h ho).2.1
  have hx2 := hx
  rw [hu] at hx2
  have hc := hx2.cut
  rw [← hu] at hc
  exact ⟨⟨hc.1, hx2.all.left⟩, hc.2⟩
theorem FL.bit {p : (Tok × List Int × List Int) × Int} (h : FL p) : ∃ an : Int, bits BinOp.and .u8 p.2 1 = an ∧ (an != 0) = p.1.1.id := by
  obtain ⟨h1, h2⟩ := h
  rcases h1 with e | e | e
  · refine ⟨0, by rw [e]; rfl, ?_⟩
    cases q : p.1.1.id with
    | false => rfl
    | true => have := h2.2 q; omega
  · refine ⟨1, by rw [e]; rfl, ?_⟩
    rw [h2.1 e]; rfl
  · refine ⟨0, by rw [e]; rfl, ?_⟩
    cases q : p.1.1.id with
    | false => rfl
    | true => have := h2.2 q; omega
set_option maxRecDepth 100000 in
set_option maxHeartbeats 8000000 in
theorem Tokens12_calls {w : World} {s : ByteArray} {l : List Int} (h : Sfx s l) (h0 : ps s l = 0) (hs : s.size ≤ 524288) (hbom : hd l ≠ 65279) (ho : (toks l).2 = false) (h2 : 2 ≤ w.heap.size) (htab : Lib.Utf8Tabs 0 1 w) :
    Calls Tryz.prog 12 #[.string s] w (T12P w s l) := by
  go_enter Tryz.func12, Tryz.ntmps12
  have hx := tok23_calls h h0 hs hbom ho h2 htab
  go_wp2_with (go_at_call 23; refine hx.mono ?_; rintro e w1 ⟨dn, a, b, c, d, e1, f1, x, rfl, hall, hown, hFL, hmap, hb1⟩; obtain ⟨p9, cp9, rfl⟩ := own_slice hown; have hf54 := fun w => fld54 p9 dn.length cp9 b c d e1 f1 x w)
  have HS := Lib.hid h
  have HO := Lib.hid ho
  have HFL := Lib.hid hFL
  have HMP := Lib.hid hmap
  have HS0 := Lib.hid hs
  clear h hbom ho hFL hmap hx h0 hs
  go_loopg [3, 11] dn.length (fun n a i wr => TKL w1 s dn n a i wr)
  case atStart => exact ⟨0, [], rfl, rfl, Nat.zero_le _, .nil, rfl, World.ownsRow_nil _ _ _ _, Below.refl _ _⟩
  case round =>
    obtain ⟨j, O, rfl, hn, hj, hfa, hol, hrw, hbel⟩ := hrel
    have HN := Lib.hid hn
    have HFA := Lib.hid hfa
    clear hn hfa
    by_cases hlt : j < dn.length
    · obtain ⟨g2, cap2, cur, p, hv, hg2, hp, hcur⟩ := lx_row hown hlt
      injection hv with hv1 hv2 hv3
      subst hv1 hv3
      have HP := Lib.hid hp
      have hpm : p.1 ∈ ptoks l := by
        rw [← HMP.out]; exact List.mem_map_of_mem (List.mem_of_getElem? hp)
      have HFP := Lib.hid (HFL.out p (List.mem_of_getElem? hp))
      have HPM := Lib.hid hpm
      clear hp hpm
      have hgr : wr.heap[g2]? = some (.cells cur 60 (0, 0)) := (hbel.block g2 (lt_of_blk hg2)).trans hg2
      have y0 : wr.cell? ⟨g2, j * 5, none⟩ = some (.int .i32 (ps s p.1.2.1)) := (blk_cell hgr (j * 5 + 0)).trans (hcur 0 (by decide))
      have y1 : wr.cell? ⟨g2, j * 5 + 1, none⟩ = some (.int .i32 ((ps s p.1.2.2 : Int) - ps s p.1.2.1)) := (blk_cell hgr (j * 5 + 1)).trans (hcur 1 (by decide))
      have y2 : wr.cell? ⟨g2, j * 5 + 2, none⟩ = some (.int .u16 (p.1.1.unit % 65536)) := (blk_cell hgr (j * 5 + 2)).trans (hcur 2 (by decide))
      have y3 : wr.cell? ⟨g2, j * 5 + 3, none⟩ = some (.int .u8 p.1.1.kind) := (blk_cell hgr (j * 5 + 3)).trans (hcur 3 (by decide))
      have y4 : wr.cell? ⟨g2, j * 5 + 4, none⟩ = some (.int .u8 p.2) := (blk_cell hgr (j * 5 + 4)).trans (hcur 4 (by decide))
      have HJB : Hid (j ≤ 1099511627776) := Lib.hid (by
        have e1 := congrArg List.length HMP.out
        rw [List.length_map] at e1
        have e2 := ptoks_len l
        have e3 := encs_ge l
        have e4 := HS.out.fits
        have := HS0.out
        omega)
      have hj1 : (j : Int) < dn.length := by omega
      have hj0 : (0 : Int) ≤ j := by omega
      go_upto_region 5 with (fail)
      have hKb : KeepA wr (wr.alloc (.cells #[.int .i32 (ps s p.1.2.1), .int .i32 ((ps s p.1.2.2 : Int) - ps s p.1.2.1), .int .u16 (p.1.1.unit % 65536), .int .u8 p.1.1.kind, .int .u8 p.2] 60)) := (Keep.refl _ _).alloc _
      have hBx : (wr.alloc (.cells #[.int .i32 (ps s p.1.2.1), .int .i32 ((ps s p.1.2.2 : Int) - ps s p.1.2.1), .int .u16 (p.1.1.unit % 65536), .int .u8 p.1.1.kind, .int .u8 p.2] 60)).heap[wr.heap.size]? = some (.cells #[.int .i32 (ps s p.1.2.1), .int .i32 ((ps s p.1.2.2 : Int) - ps s p.1.2.1), .int .u16 (p.1.1.unit % 65536), .int .u8 p.1.1.kind, .int .u8 p.2] 60 (0, 0)) := heap_alloc_new wr _
      obtain ⟨wb, hwb⟩ : ∃ x, (wr.alloc (.cells #[.int .i32 (ps s p.1.2.1), .int .i32 ((ps s p.1.2.2 : Int) - ps s p.1.2.1), .int .u16 (p.1.1.unit % 65536), .int .u8 p.1.1.kind, .int .u8 p.2] 60)) = x := ⟨_, rfl⟩
      obtain ⟨X, hXe⟩ : ∃ x, wr.heap.size = x := ⟨_, rfl⟩
      rw [hwb] at hKb hBx ⊢
      rw [hXe] at hBx ⊢
      have hXb : X < wb.heap.size := lt_of_blk hBx
      clear hwb hXe y0 y1 y2 y3 y4 hgr hcur hf54 hall
      have hTB := ptoks_b HPM.out HO.out
      obtain ⟨hWt, hle⟩ := tok_wt HS.out HPM.out HO.out
      have HLT := Lib.hid (tok_ltr HPM.out HO.out)
      have HWT := Lib.hid hWt
      have hpe : ps s p.1.2.2 ≤ 1073741824 := Nat.le_trans (ps_le _ _) (by have := HS0.out; omega)
      have hpa : ps s p.1.2.1 ≤ 1073741824 := Nat.le_trans hle hpe
      have HPES := Lib.hid (ps_le s p.1.2.2)
      have hu0 : 0 ≤ p.1.1.unit % 65536 := Int.emod_nonneg _ (by decide)
      have hu1 : p.1.1.unit % 65536 < 65536 := Int.emod_lt_of_pos _ (by decide)
      have hk0 := hTB.k0
      have hk1 := hTB.k1
      obtain ⟨an, hand, hne⟩ := HFP.out.bit
      clear hTB hWt
      have HPA : ∃ x, x = ps s p.1.2.1 := ⟨_, rfl⟩
      obtain ⟨pa, HPA⟩ := HPA
      have HPE : ∃ x, x = ps s p.1.2.2 := ⟨_, rfl⟩
      obtain ⟨pe, HPE⟩ := HPE
      have HUN : ∃ x, x = p.1.1.unit % 65536 := ⟨_, rfl⟩
      obtain ⟨un, HUN⟩ := HUN
      have HKD : ∃ x, x = p.1.1.kind := ⟨_, rfl⟩
      obtain ⟨kd, HKD⟩ := HKD
      have HID : ∃ x, x = p.1.1.id := ⟨_, rfl⟩
      obtain ⟨id, HID⟩ := HID
      have HFG : ∃ x, x = p.2 := ⟨_, rfl⟩
      obtain ⟨fl, HFG⟩ := HFG
      rw [← HPA] at hpa hle
      rw [← HPE] at hpe hle
      rw [← HUN] at hu0 hu1
      rw [← HKD] at hk0 hk1
      rw [← HID] at hne
      rw [← HFG] at hand
      rw [← HPA, ← HPE, ← HUN, ← HKD, ← HFG] at hBx ⊢
      have HDT := fun (wq : World) (hU : Lib.Utf8Tabs 0 1 wq) (hq : 2 ≤ wq.heap.size) => DecodedText_calls HWT.out HLT.out rfl (by rw [← HPA, ← HPE]; exact hle) HPES.out (by have := HS0.out; omega) un fl wq hU hq
      rw [← HPA, ← HPE, ← HKD] at HDT
      have HPA' := Lib.hid HPA
      have HPE' := Lib.hid HPE
      have HUN' := Lib.hid HUN
      have HKD' := Lib.hid HKD
      have HID' := Lib.hid HID
      clear HPA HPE HUN HKD HID HFG
      refine wp_mono (t12_at fl an id hand hne wb X _ rfl rfl kd un pa pe hBx ⟨hk0, hk1⟩ ⟨hu0, hu1⟩ hpa hpe) ?_
      rintro e a w5 ⟨rfl, Y, h', rfl, hYb, hY, hK5⟩
      simp only [List.getD_cons_zero, List.getD_cons_succ]
      have hX5 := hK5.blk hBx (fun x => x)
      have hK := hKb.trans hK5
      have hbel5 : Below w1.heap.size w1 w5 := hbel.trans (hK.below hbel.size (fun _ _ e => e.elim))
      have hrw5 : Rw w5 w1.heap.size u3 O := hrw.keep hK
      have htab5 : Lib.Utf8Tabs 0 1 w5 := tabs_keep htab ((Keep.of_below hb1 (fun _ => False)).trans (Keep.of_below hbel5 (fun _ => False))) (fun e => e) (fun e => e)
      have h25 : 2 ≤ w5.heap.size := Nat.le_trans h2 (Nat.le_trans hb1.size hbel5.size)
      have hYX : Y ≠ X := by have := hXb; omega
      have hrwb : Rw wb w1.heap.size u3 O := hrw.keep hKb
      have hnY : ∀ k, u3.ownBlock = some k → k ≠ Y := fun k e => by have := (hrwb.lt k e).2; omega
      have hYw : w1.heap.size ≤ Y := by have := hbel.size; have := hKb.size; omega
      clear hK hKb hK5 hrw hbel hBx hrwb
      have q0 : w5.cell? ⟨X, 0, none⟩ = some (.int .i32 pa) := (blk_cell hX5 0).trans rfl
      have q1 : w5.cell? ⟨X, 1, none⟩ = some (.int .i32 ((pe : Int) - pa)) := (blk_cell hX5 1).trans rfl
      have q2 : w5.cell? ⟨X, 2, none⟩ = some (.int .u16 un) := (blk_cell hX5 2).trans rfl
      have q3 : w5.cell? ⟨X, 3, none⟩ = some (.int .u8 kd) := (blk_cell hX5 3).trans rfl
      have q4 : w5.cell? ⟨X, 4, none⟩ = some (.int .u8 fl) := (blk_cell hX5 4).trans rfl
      go_upto_region 7 with (go_at_call 25; refine (HDT _ htab5 h25).mono ?_; rintro e w6 ⟨R, rfl, hR, hK6⟩; have hY6 := hK6.blk hY (fun x => x); have f5 := blk_frozen hY6 5; have x5 : w6.cell? ⟨Y, 5, none⟩ = some (.string ⟨#[]⟩) := (blk_cell hY6 5).trans rfl)
      have hYs : (w6.setCell ⟨Y, 5, none⟩ (.string R)).heap[Y]? = some (.cells #[.int .i64 kd, .int .i64 pa, .int .i64 pe, .int .i64 un, .bool id, .string R] 28 (0, 0)) := (blk_set hY6 5 (.string R)).trans rfl
      have hKY : Keep (fun k => k = Y) w6 (w6.setCell ⟨Y, 5, none⟩ (.string R)) := (Keep.refl (fun k => k = Y) w6).setCell (fun _ => rfl) _
      have HRW : Hid (Rw (w6.setCell ⟨Y, 5, none⟩ (.string R)) w1.heap.size u3 O) := Lib.hid (hKY.own (hrw5.keep hK6) hnY)
      have hbS : Below w1.heap.size w1 (w6.setCell ⟨Y, 5, none⟩ (.string R)) := (hbel5.trans (hK6.below hbel5.size (fun _ _ e => e.elim))).trans (hKY.below (by have := hbel5.size; have := hK6.size; omega) (fun k _ e => by rw [e]; exact hYw))
      obtain ⟨wS, hwS⟩ : ∃ x, w6.setCell ⟨Y, 5, none⟩ (.string R) = x := ⟨_, rfl⟩
      rw [hwS] at hYs HRW hbS ⊢
      clear hwS hKY f5 x5 hY6 hK6 hrw5 hbel5 htab5 h25 hY hX5 q0 q1 q2 q3 q4
      have z0 : wS.cell? ⟨Y, 0, none⟩ = some (.int .i64 kd) := (blk_cell hYs 0).trans rfl
      have z1 : wS.cell? ⟨Y, 1, none⟩ = some (.int .i64 pa) := (blk_cell hYs 1).trans rfl
      have z2 : wS.cell? ⟨Y, 2, none⟩ = some (.int .i64 pe) := (blk_cell hYs 2).trans rfl
      have z3 : wS.cell? ⟨Y, 3, none⟩ = some (.int .i64 un) := (blk_cell hYs 3).trans rfl
      have z4 : wS.cell? ⟨Y, 4, none⟩ = some (.bool id) := (blk_cell hYs 4).trans rfl
      have z5 : wS.cell? ⟨Y, 5, none⟩ = some (.string R) := (blk_cell hYs 5).trans rfl
      have HFN : Hid (Fa2 (PR s) ((dn.map Prod.fst).take (j + 1)) (O ++ [⟨kd, pa, pe, un, id, R⟩])) := Lib.hid (by
        have e : (dn.map Prod.fst)[j]? = some p.1 := by rw [List.getElem?_map, HP.out]; rfl
        rw [List.take_add_one, e]
        refine HFA.out.snoc ⟨HKD'.out, congrArg Int.ofNat HPA'.out, congrArg Int.ofNat HPE'.out, HUN'.out, HID'.out, hR⟩)
      obtain ⟨i0, hi0, hy0, hy1, hy2⟩ := info_parts info28
      have hbl := hbS.size
      have hob : O.length ≤ 1099511627776 := by rw [hol]; exact HJB.out
      have HOL := Lib.hid hol
      have hjb : j ≤ 1099511627776 := HJB.out
      clear hR hol
      go_wp2_with (at_builtin; refine wpList_append_lies _ rfl _ _ 24 rfl w1.heap.size 28 i0 _ 6 56 Tryz.underlying24 hi0 hy0 hy1 hy2 rfl (by decide) u3 O.length (rowC O) rfl (HRW.out.alloc _) ⟨wS.heap.size, 0, none⟩ 1 1 [.int .i64 kd, .int .i64 pa, .int .i64 pe, .int .i64 un, .bool id, .string R] rfl rfl (World.news_of_block (cs := #[.int .i64 kd, .int .i64 pa, .int .i64 pe, .int .i64 un, .bool id, .string R]) (t := 28) (fr := (0, 0)) (heap_alloc_new wS _)) (by simp [Value.oneCell']) (by decide) (by unfold maxLen; omega) (by omega) (by simp; omega) (wS.heap.size + 1) (by simp) ?_; intro gg cap3 w3 hown3 hgrow hat hlt3; have HO3 := Lib.hid hown3; have HG3 := Lib.hid hgrow; clear hown3 hgrow hat)
      go_roundg (dn.length - (j + 1))
      case measure => have := HN.out; omega
      case rel => exact TKL.push HFN.out HOL.out HO3.out HG3.out HRW.out hbS hlt
    · have HF : Hid (Fa2 (PR s) (ptoks l) O) := Lib.hid (by
        have e := HFA.out
        rw [List.take_of_length_le (by rw [List.length_map]; omega), HMP.out] at e
        exact e)
      have hj1 : ¬ (j : Int) < dn.length := by omega
      go_wp2_with fail
      go_ret
      exact ⟨u3, O, rfl, HF.out, ownsRow_low hrw hb1.size, hb1.trans (Below.low hbel hb1.size)⟩
end Go.Proofs.YtedckphklebndaaGreatDoor
