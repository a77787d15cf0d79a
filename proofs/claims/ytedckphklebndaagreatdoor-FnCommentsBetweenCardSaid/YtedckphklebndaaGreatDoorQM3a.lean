/- The laws' one, walked. Conditions: a text that is one token; the tables of unicode/utf8 lie in blocks 0 and 1. -/
import Derived.Test.YtedckphklebndaaGreatDoorQM2
namespace Go.Proofs.YtedckphklebndaaGreatDoor
open Go Go.RowKit
theorem mark_hd {raw : ByteArray} {u : List Int} (hW : Wt raw u) (h : hasMarkB raw = false) : hd u ≠ 65279 := by
  intro e
  obtain ⟨v, rfl⟩ : ∃ v, u = 65279 :: v := by
    cases u with
    | nil => cases e
    | cons c v => simp only [hd_cons] at e; exact ⟨v, by rw [e]⟩
  have hb := hW.by_
  simp only [encs, enc_bom] at hb
  have hz : 3 ≤ raw.size := by rw [Lib.size_eq, hb]; simp
  have hx : (raw.extract 0 3).toList = [239, 187, 191] := by
    rw [ByteArray.toList_eq, Lib.extract_data, hb]; rfl
  unfold hasMarkB at h
  rw [hx, decide_eq_true hz] at h
  cases h
theorem not_92 {raw : ByteArray} {u : List Int} (hW : Wt raw u) (h : (raw.toList == [92]) = false) : u ≠ [92] := by
  rintro rfl
  have hb := hW.by_
  rw [ByteArray.toList_eq, hb] at h
  revert h; decide
theorem Fa2.get {α β : Type} {R : α → β → Prop} {a : List α} {b : List β} (h : Fa2 R a b) {j : Nat} {y : β} (hj : b[j]? = some y) : ∃ x, a[j]? = some x ∧ R x y := by
  induction h generalizing j with
  | nil => cases hj
  | cons h _ ih =>
    cases j with
    | zero => simp only [List.getElem?_cons_zero, Option.some.injEq] at hj; subst hj; exact ⟨_, rfl, h⟩
    | succ j => simp only [List.getElem?_cons_succ] at hj ⊢; exact ih hj
def OneP (w : World) (s : ByteArray) (u : List Int) (t : Tok) (e : Ending) (w' : World) : Prop :=
  ∃ p : PT, PR s (t, u, []) p ∧ e = .returned (.tuple #[.agg #[.int .i64 p.k, .int .i64 p.a, .int .i64 p.b, .int .i64 p.u, .bool p.id, .string p.t], .bool true]) ∧ Below w.heap.size w w'
def sixW (w : World) (K : Nat) (a b c d e f : Value) : World := (((((w.setCell ⟨K, 0, none⟩ a).setCell ⟨K, 1, none⟩ b).setCell ⟨K, 2, none⟩ c).setCell ⟨K, 3, none⟩ d).setCell ⟨K, 4, none⟩ e).setCell ⟨K, 5, none⟩ f
theorem six_set {w : World} {K : Nat} {a0 b0 c0 d0 e0 f0 : Value} {T : TypeId} (h : w.heap[K]? = some (.cells #[a0, b0, c0, d0, e0, f0] T (0, 0))) (a b c d e f : Value) : (sixW w K a b c d e f).heap[K]? = some (.cells #[a, b, c, d, e, f] T (0, 0)) :=
  (blk_set (blk_set (blk_set (blk_set (blk_set (blk_set h 0 a) 1 b) 2 c) 3 d) 4 e) 5 f).trans rfl
theorem six_keep (w : World) (K : Nat) (a b c d e f : Value) : Keep (fun k => k = K) w (sixW w K a b c d e f) :=
  ((((((Keep.refl (fun k => k = K) w).setCell (fun _ => rfl) a).setCell (fun _ => rfl) b).setCell (fun _ => rfl) c).setCell (fun _ => rfl) d).setCell (fun _ => rfl) e).setCell (fun _ => rfl) f
set_option maxRecDepth 100000 in
set_option maxHeartbeats 8000000 in
theorem one_calls {w : World} {s : ByteArray} {u : List Int} {t : Tok} (hW : Wt s u) (hs : s.size ≤ 524288) (hbom : hd u ≠ 65279) (ho : (toks u).2 = false) (hp : ptoks u = [(t, u, [])]) (h2 : 2 ≤ w.heap.size) (htab : Lib.Utf8Tabs 0 1 w) :
    Calls Tryz.prog 15 #[.string s] w (OneP w s u t) := by
  go_enter Tryz.func15, Tryz.ntmps15
  go_upto_region 1 with (fail)
  have hR : (w.alloc (.cells #[.int .i64 0, .int .i64 0, .int .i64 0, .int .i64 0, .bool false, .string ⟨#[]⟩] 28)).heap[w.heap.size]? = some (.cells #[.int .i64 0, .int .i64 0, .int .i64 0, .int .i64 0, .bool false, .string ⟨#[]⟩] 28 (0, 0)) := heap_alloc_new _ _
  have hb : Below w.heap.size w (w.alloc (.cells #[.int .i64 0, .int .i64 0, .int .i64 0, .int .i64 0, .bool false, .string ⟨#[]⟩] 28)) := ((Keep.refl (fun _ => False) w).alloc _).law
  obtain ⟨wa, hwa⟩ : ∃ x, w.alloc (.cells #[.int .i64 0, .int .i64 0, .int .i64 0, .int .i64 0, .bool false, .string ⟨#[]⟩] 28) = x := ⟨_, rfl⟩
  rw [hwa] at hR hb
  change Code.wp _ _ _ _ (w.alloc (.cells #[.int .i64 0, .int .i64 0, .int .i64 0, .int .i64 0, .bool false, .string ⟨#[]⟩] 28))
  rw [hwa]
  clear hwa
  obtain ⟨K, hK⟩ : ∃ x, w.heap.size = x := ⟨_, rfl⟩
  rw [hK] at hR ⊢
  have HK := Lib.hid hK
  have hKa := lt_of_blk hR
  clear hK
  go_wp2_with fail
  refine (Tokens_at hW.sfx hW.ps hs hbom ho h2 htab hb).mono ?_
  rintro e w1 ⟨v1, L, rfl, hfa, hrw, hbT⟩
  have hb1 := below_more hb hbT
  have hR1 := below_blk hbT hR hKa
  go_wp2_with fail
  refine (merged_of hfa ho hrw (by rw [hp]; show 1 ≤ _; omega) rfl).mono ?_
  rintro e w2 ⟨v2, rfl, hrw2, hbM⟩
  have hb2 := below_more hb1 hbM
  have hR2 := below_blk hbM hR1 (lt_of_blk hR1)
  rw [hp] at hfa
  obtain ⟨p, rfl, hpr⟩ := hfa.one
  have HPR := Lib.hid hpr
  have ea : p.a = 0 := hpr.2.1.trans (by show ((ps s u : Nat) : Int) = 0; rw [hW.ps]; rfl)
  have eb : p.b = (s.size : Nat) := hpr.2.2.1.trans (by show ((ps s [] : Nat) : Int) = _; rw [ps_nil])
  rcases hrw2.parts with ⟨_, h0⟩ | ⟨g, cap, cur, rfl, hB, hG, hcap, hcur⟩
  · cases h0
  · have x0 : w2.cell? ⟨g, 0, none⟩ = some (.int .i64 p.k) := (blk_cell hG 0).trans (hcur 0 0 p rfl (by decide))
    have x1 : w2.cell? ⟨g, 1, none⟩ = some (.int .i64 0) := ((blk_cell hG 1).trans (hcur 0 1 p rfl (by decide))).trans (congrArg (fun z => some (Value.int .i64 z)) ea)
    have x2 : w2.cell? ⟨g, 2, none⟩ = some (.int .i64 (s.size : Nat)) := ((blk_cell hG 2).trans (hcur 0 2 p rfl (by decide))).trans (congrArg (fun z => some (Value.int .i64 z)) eb)
    have x3 : w2.cell? ⟨g, 3, none⟩ = some (.int .i64 p.u) := (blk_cell hG 3).trans (hcur 0 3 p rfl (by decide))
    have x4 : w2.cell? ⟨g, 4, none⟩ = some (.bool p.id) := (blk_cell hG 4).trans (hcur 0 4 p rfl (by decide))
    have x5 : w2.cell? ⟨g, 5, none⟩ = some (.string p.t) := (blk_cell hG 5).trans (hcur 0 5 p rfl (by decide))
    have hgK : g ≠ K := by have := lt_of_blk hR1; omega
    have hone : (#[Value.int .i64 p.k, .int .i64 0, .int .i64 (s.size : Nat), .int .i64 p.u, .bool p.id, .string p.t] : Array Value).all (·.oneCell') = true := by simp [Value.oneCell']
    clear hcur hG hR hR1 hfa hrw hrw2 hpr hbT hbM hb hb1
    have k0 : w2.cell? ⟨K, 0, none⟩ = some (.int .i64 0) := (blk_cell hR2 0).trans rfl
    have k1 : w2.cell? ⟨K, 1, none⟩ = some (.int .i64 0) := (blk_cell hR2 1).trans rfl
    have k2 : w2.cell? ⟨K, 2, none⟩ = some (.int .i64 0) := (blk_cell hR2 2).trans rfl
    have k3 : w2.cell? ⟨K, 3, none⟩ = some (.int .i64 0) := (blk_cell hR2 3).trans rfl
    have k4 : w2.cell? ⟨K, 4, none⟩ = some (.bool false) := (blk_cell hR2 4).trans rfl
    have k5 : w2.cell? ⟨K, 5, none⟩ = some (.string ⟨#[]⟩) := (blk_cell hR2 5).trans rfl
    have f0 := blk_frozen hR2 0
    have f1 := blk_frozen hR2 1
    have f2 := blk_frozen hR2 2
    have f3 := blk_frozen hR2 3
    have f4 := blk_frozen hR2 4
    have f5 := blk_frozen hR2 5
    go_wp2_with fail
    go_region
    all_goals
      go_wp2_with fail
      have hF := six_set hR2 (.int .i64 p.k) (.int .i64 0) (.int .i64 (s.size : Nat)) (.int .i64 p.u) (.bool p.id) (.string p.t)
      have hKF := six_keep w2 K (.int .i64 p.k) (.int .i64 0) (.int .i64 (s.size : Nat)) (.int .i64 p.u) (.bool p.id) (.string p.t)
      unfold sixW at hF hKF
      generalize (((((w2.setCell ⟨K, 0, none⟩ (.int .i64 p.k)).setCell ⟨K, 1, none⟩ (.int .i64 0)).setCell ⟨K, 2, none⟩ (.int .i64 (s.size : Nat))).setCell ⟨K, 3, none⟩ (.int .i64 p.u)).setCell ⟨K, 4, none⟩ (.bool p.id)).setCell ⟨K, 5, none⟩ (.string p.t) = wF at hF hKF ⊢
      have hFd : wF.drew.heap[K]? = _ := hF
      have r0 := blk_cell hFd 0
      have r1 := blk_cell hFd 1
      have r2 := blk_cell hFd 2
      have r3 := blk_cell hFd 3
      have r4 := blk_cell hFd 4
      have r5 := blk_cell hFd 5
      have hbF : Below w.heap.size w wF.drew := hb2.trans ((hKF.drew).below hb2.size (fun k _ e => by have := HK.out; omega))
      refine bodyPost_ret (v := .tuple #[.agg #[.int .i64 p.k, .int .i64 0, .int .i64 (s.size : Nat), .int .i64 p.u, .bool p.id, .string p.t], .bool true]) (by simp [results, Tryz.results15, go_sem, r0, r1, r2, r3, r4, r5]) rfl ⟨p, HPR.out, ?_, hbF⟩
      rw [ea, eb]
end Go.Proofs.YtedckphklebndaaGreatDoor
