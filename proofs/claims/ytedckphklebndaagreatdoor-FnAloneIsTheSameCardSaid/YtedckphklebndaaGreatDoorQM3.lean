/- The law on each token alone, walked. Conditions: the tables of unicode/utf8 lie in blocks 0 and 1. -/
import Derived.Test.YtedckphklebndaaGreatDoorQM3a
namespace Go.Proofs.YtedckphklebndaaGreatDoor
open Go Go.RowKit
/-- The law, in plain lists: a token alone. -/
theorem plain3 {s : ByteArray} {l : List Int} {t : Tok × List Int × List Int} {p : PT} (hS : Sfx s l) (ho : (toks l).2 = false) (h : t ∈ ptoks l) (hp : PR s t p) {raw : ByteArray} (hr : s.extract (ps s t.2.1) (ps s t.2.2) = raw)
    (h2 : (p.k == 2) = false) (h92 : (raw.toList == [92]) = false) (hm : hasMarkB raw = false) (hx : ¬ ((p.k == 27) = true ∧ isUrl p.t.data.toList = true)) :
    Wt raw (lets t) ∧ hd (lets t) ≠ 65279 ∧ (toks (lets t)).2 = false ∧ ptoks (lets t) = [(t.1, lets t, [])] := by
  have hW := (tok_wt hS h ho).1
  rw [hr] at hW
  have hk := hp.1
  have hA := tok_alone h ho (lets_eq h ho) (by rw [← hk]; simpa using h2) (not_92 hW h92) (by
    rintro ⟨e1, e2⟩
    refine hx ⟨by rw [hk, e1]; rfl, ?_⟩
    rw [hp.2.2.2.2.2 (by rw [e1]; rfl)]; exact e2)
  exact ⟨hW, mark_hd hW hm, hA.1, hA.2⟩
theorem alike_one {s t : ByteArray} {a b : Tok × List Int × List Int} {p q : PT} (h : PR s a p) (k : PR t b q) (e : a.1 = b.1) : alikeB p q = true := alikeB_of (by rw [h.ab, k.ab, e])
/-- A loop over a row. -/
def RwL (w0 : World) (m : Nat) (n : Nat) (i : Value) (w : World) : Prop := ∃ j : Nat, i = .int .i64 (j : Nat) ∧ n = m - j ∧ j ≤ m ∧ Below w0.heap.size w0 w
set_option maxRecDepth 100000 in
set_option maxHeartbeats 8000000 in
theorem law3 {w : World} (s : ByteArray) (h2 : 2 ≤ w.heap.size) (htab : Lib.Utf8Tabs 0 1 w) : Calls Tryz.prog 3 #[.string s] w (LawP w) := by
  by_cases hbig : (s.size : Int) > 2147483647
  · go_enter Tryz.func3, Tryz.ntmps3
    go_wp2_with fail
    go_ret
    exact ⟨rfl, Below.refl _ _⟩
  go_enter Tryz.func3, Tryz.ntmps3
  go_wp2_with fail
  refine (whole_calls s (by omega) _).mono ?_
  rintro e w1 ⟨b, rfl, hb1, hK1⟩
  have hb := hK1.law
  cases b with
  | false =>
    clear hb1
    go_wp2_with (go_at_call 10; refine (wakes_at h2 htab hb).mono ?_; rintro e w2 ⟨rfl, hb2⟩)
    go_ret
    exact ⟨rfl, hb2⟩
  | true =>
    obtain ⟨l, hW⟩ := hb1 rfl
    have hsz := hW.2.2.2.2
    have HW := Lib.hid hW
    clear hb1 hW hK1
    go_wp2_with fail
    refine (Tokens_at HW.out.1 HW.out.2.1 (by omega) HW.out.2.2.1 HW.out.2.2.2.1 h2 htab hb).mono ?_
    rintro e w2 ⟨v1, L, rfl, hfa, hrw, hbT⟩
    have hb2 := below_more hb hbT
    have HF := Lib.hid hfa
    have HL : Hid (L.length ≤ 32768) := Lib.hid (hfa.few HW.out.1 hsz)
    go_wp2_with fail
    refine (merged_of hfa HW.out.2.2.2.1 hrw (by have := HW.out.few; omega) rfl).mono ?_
    rintro e w3 ⟨v2, rfl, hrw2, hbM⟩
    have hb3 := below_more hb2 hbM
    have HR := Lib.hid hrw2
    clear hfa hrw hrw2 hbT hbM hb2 hb hbig
    rcases HR.out.parts with ⟨rfl, rfl⟩ | ⟨g, cap, cur, rfl, hB, hG0, hcap, hcur⟩
    · go_wp2_with fail
      go_loopg [19] 0 (fun n i wr => i = .int .i64 0 ∧ wr = w3)
      case atStart => exact ⟨rfl, rfl⟩
      case round =>
        obtain ⟨rfl, rfl⟩ := hrel
        go_wp2_with (go_at_call 10; refine (wakes_at h2 htab hb3).mono ?_; rintro e w4 ⟨rfl, hb4⟩)
        go_ret
        exact ⟨rfl, hb4⟩
    · have hll := HL.out
      go_wp2_with fail
      go_loopg [19] L.length (fun n i wr => RwL w3 L.length n i wr)
      case atStart => exact ⟨0, rfl, rfl, Nat.zero_le _, Below.refl _ _⟩
      case round =>
        obtain ⟨j, rfl, hn, hj, hbel⟩ := hrel
        have HN := Lib.hid hn
        clear hn
        by_cases hlt : j < L.length
        · obtain ⟨p, hp⟩ : ∃ p, L[j]? = some p := ⟨L[j], List.getElem?_eq_getElem hlt⟩
          obtain ⟨t, ht, hpr⟩ := HF.out.get hp
          have hmem := List.mem_of_getElem? ht
          have hG : wr.heap[g]? = some (.cells cur 28 (0, 0)) := (hbel.block g (lt_of_blk hG0)).trans hG0
          obtain ⟨pa, hpa⟩ : ∃ x, x = ps s t.2.1 := ⟨_, rfl⟩
          obtain ⟨pe, hpe⟩ : ∃ x, x = ps s t.2.2 := ⟨_, rfl⟩
          obtain ⟨raw, hraw⟩ : ∃ x, s.extract pa pe = x := ⟨_, rfl⟩
          have ea : p.a = (pa : Nat) := by rw [hpr.2.1, hpa]
          have eb : p.b = (pe : Nat) := by rw [hpr.2.2.1, hpe]
          have hle : pa ≤ pe := by rw [hpa, hpe]; exact (tok_wt HW.out.1 hmem HW.out.2.2.2.1).2
          have hpes : pe ≤ s.size := by rw [hpe]; exact ps_le _ _
          have x0 : wr.cell? ⟨g, j * 6, none⟩ = some (.int .i64 p.k) := (blk_cell hG (j * 6 + 0)).trans (hcur j 0 p hp (by decide))
          have x1 : wr.cell? ⟨g, j * 6 + 1, none⟩ = some (.int .i64 (pa : Nat)) := ((blk_cell hG (j * 6 + 1)).trans (hcur j 1 p hp (by decide))).trans (congrArg (fun z => some (Value.int .i64 z)) ea)
          have x2 : wr.cell? ⟨g, j * 6 + 2, none⟩ = some (.int .i64 (pe : Nat)) := ((blk_cell hG (j * 6 + 2)).trans (hcur j 2 p hp (by decide))).trans (congrArg (fun z => some (Value.int .i64 z)) eb)
          have x3 : wr.cell? ⟨g, j * 6 + 3, none⟩ = some (.int .i64 p.u) := (blk_cell hG (j * 6 + 3)).trans (hcur j 3 p hp (by decide))
          have x4 : wr.cell? ⟨g, j * 6 + 4, none⟩ = some (.bool p.id) := (blk_cell hG (j * 6 + 4)).trans (hcur j 4 p hp (by decide))
          have x5 : wr.cell? ⟨g, j * 6 + 5, none⟩ = some (.string p.t) := (blk_cell hG (j * 6 + 5)).trans (hcur j 5 p hp (by decide))
          have hj1 : (j : Int) < L.length := by omega
          have hj2 : (0 : Int) ≤ j := by omega
          have n1 : (pa : Int) ≤ pe := by omega
          have n2 : (pe : Int) ≤ s.size := by omega
          have n3 : (0 : Int) ≤ pa := by omega
          have HPR := Lib.hid hpr
          have HMEM := Lib.hid hmem
          have HRAW : Hid (s.extract (ps s t.2.1) (ps s t.2.2) = raw) := Lib.hid (by rw [← hpa, ← hpe]; exact hraw)
          have HEA := Lib.hid ea
          have HEB := Lib.hid eb
          clear hp ht hpr hmem hpa hpe ea eb hle hpes hG
          go_upto_region 9 with (fail)
          have hX : (wr.alloc (.cells #[.int .i64 p.k, .int .i64 (pa : Nat), .int .i64 (pe : Nat), .int .i64 p.u, .bool p.id, .string p.t] 28)).heap[wr.heap.size]? = some (.cells #[.int .i64 p.k, .int .i64 (pa : Nat), .int .i64 (pe : Nat), .int .i64 p.u, .bool p.id, .string p.t] 28 (0, 0)) := heap_alloc_new _ _
          have hbX : Below w3.heap.size w3 (wr.alloc (.cells #[.int .i64 p.k, .int .i64 (pa : Nat), .int .i64 (pe : Nat), .int .i64 p.u, .bool p.id, .string p.t] 28)) := hbel.alloc hbel.size _
          obtain ⟨wb, hwb⟩ : ∃ x, wr.alloc (.cells #[.int .i64 p.k, .int .i64 (pa : Nat), .int .i64 (pe : Nat), .int .i64 p.u, .bool p.id, .string p.t] 28) = x := ⟨_, rfl⟩
          obtain ⟨X, hXe⟩ : ∃ x, wr.heap.size = x := ⟨_, rfl⟩
          rw [hwb] at hX hbX ⊢
          rw [hXe] at hX ⊢
          clear hwb hXe hbel x0 x1 x2 x3 x4 x5
          have y0 : wb.cell? ⟨X, 0, none⟩ = some (.int .i64 p.k) := (blk_cell hX 0).trans rfl
          have y5 : wb.cell? ⟨X, 5, none⟩ = some (.string p.t) := (blk_cell hX 5).trans rfl
          cases k2 : (p.k == 2) with
          | true =>
            go_wp2_with fail
            go_roundg (L.length - (j + 1))
            case measure => have := HN.out; omega
            case rel => exact ⟨j + 1, rfl, rfl, by omega, hbX⟩
          | false =>
            cases k92 : (raw.toList == [92]) with
            | true =>
              go_wp2_with fail
              go_roundg (L.length - (j + 1))
              case measure => have := HN.out; omega
              case rel => exact ⟨j + 1, rfl, rfl, by omega, hbX⟩
            | false =>
              cases km : hasMarkB raw with
              | true =>
                go_wp2_with (go_at_call 13; refine (HasMark_calls _ _).mono ?_; rintro e w' ⟨rfl, rfl⟩; rw [km])
                go_roundg (L.length - (j + 1))
                case measure => have := HN.out; omega
                case rel => exact ⟨j + 1, rfl, rfl, by omega, hbX⟩
              | false =>
                by_cases hu : (p.k == 27) = true ∧ isUrl p.t.data.toList = true
                · obtain ⟨k27, ku⟩ := hu
                  go_wp2_with (first | (go_at_call 13; refine (HasMark_calls _ _).mono ?_; rintro e w' ⟨rfl, rfl⟩; rw [km]) | (go_at_call 14; refine (IsURL_calls _ _).mono ?_; rintro e w' ⟨rfl, rfl⟩; rw [ku]))
                  go_roundg (L.length - (j + 1))
                  case measure => have := HN.out; omega
                  case rel => exact ⟨j + 1, rfl, rfl, by omega, hbX⟩
                · have HPL := Lib.hid (plain3 HW.out.1 HW.out.2.2.2.1 HMEM.out HPR.out HRAW.out k2 k92 km hu)
                  have hcs : (p.k == 27) = false ∨ ((p.k == 27) = true ∧ isUrl p.t.data.toList = false) := by
                    cases q : (p.k == 27) with
                    | false => exact .inl rfl
                    | true =>
                      cases q2 : isUrl p.t.data.toList with
                      | false => exact .inr ⟨rfl, rfl⟩
                      | true => exact absurd ⟨q, q2⟩ hu
                  clear hu
                  have hbw : Below w.heap.size w wb := below_more hb3 hbX
                  have hrs : raw.size ≤ 524288 := by rw [← hraw, ByteArray.size_extract]; omega
                  have hone := one_calls (w := wb) HPL.out.1 hrs HPL.out.2.1 HPL.out.2.2.1 HPL.out.2.2.2 (Nat.le_trans h2 hbw.size) (tabs_below htab hbw)
                  rcases hcs with k27 | ⟨k27, ku⟩
                  all_goals
                    go_upto_region 10 with (first | (go_at_call 13; refine (HasMark_calls _ _).mono ?_; rintro e w' ⟨rfl, rfl⟩; rw [km]) | (go_at_call 14; refine (IsURL_calls _ _).mono ?_; rintro e w' ⟨rfl, rfl⟩; rw [ku]))
                    go_upto_region 11 with (go_at_call 15; refine hone.mono ?_; rintro e w5 ⟨q, hq, rfl, hbO⟩)
                    have hX5 := below_blk hbO hX (lt_of_blk hX)
                    have hb6 := hbX.trans (Below.low hbO hbX.size)
                    have HAL : Hid (alikeB p q = true) := Lib.hid (alike_one HPR.out hq rfl)
                    clear hq hone
                    have z0 : w5.cell? ⟨X, 0, none⟩ = some (.int .i64 p.k) := (blk_cell hX5 0).trans rfl
                    have z1 : w5.cell? ⟨X, 1, none⟩ = some (.int .i64 (pa : Nat)) := (blk_cell hX5 1).trans rfl
                    have z2 : w5.cell? ⟨X, 2, none⟩ = some (.int .i64 (pe : Nat)) := (blk_cell hX5 2).trans rfl
                    have z3 : w5.cell? ⟨X, 3, none⟩ = some (.int .i64 p.u) := (blk_cell hX5 3).trans rfl
                    have z4 : w5.cell? ⟨X, 4, none⟩ = some (.bool p.id) := (blk_cell hX5 4).trans rfl
                    have z5 : w5.cell? ⟨X, 5, none⟩ = some (.string p.t) := (blk_cell hX5 5).trans rfl
                    have hXn : X < w5.heap.size := lt_of_blk hX5
                    have hqA : alikeB ⟨p.k, pa, pe, p.u, p.id, p.t⟩ q = true := HAL.out
                    go_wp2_with (go_at_call 16; refine (alike_calls ⟨p.k, pa, pe, p.u, p.id, p.t⟩ q _).mono ?_; rintro e w7 ⟨rfl, hK7⟩; rw [hqA])
                    go_roundg (L.length - (j + 1))
                    case measure => have := HN.out; omega
                    case rel => exact ⟨j + 1, rfl, rfl, by omega, hb6.trans ((((Keep.refl (fun _ => False) w5).alloc _).trans hK7).below hb6.size (fun _ _ e => e.elim))⟩
        · have hj1 : ¬ (j : Int) < L.length := by omega
          have hb4 : Below w.heap.size w wr := below_more hb3 hbel
          go_wp2_with (go_at_call 10; refine (wakes_at h2 htab hb4).mono ?_; rintro e w4 ⟨rfl, hb5⟩)
          go_ret
          exact ⟨rfl, hb5⟩
end Go.Proofs.YtedckphklebndaaGreatDoor
