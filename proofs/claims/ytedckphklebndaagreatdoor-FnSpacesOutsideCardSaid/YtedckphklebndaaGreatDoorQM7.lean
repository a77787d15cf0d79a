/- The law on whitespace ahead of a text and behind it, walked. Conditions: the tables of unicode/utf8 lie in blocks 0 and 1. -/
import Derived.Test.YtedckphklebndaaGreatDoorQM2
namespace Go.Proofs.YtedckphklebndaaGreatDoor
open Go Go.RowKit
noncomputable def m7R6 : Code := (((Tryz.f7.body.map regions).getD [])[6]?).getD .skip
/-- What the region leaves: a space ahead of the tokens. -/
def M7Q (w : World) (s : ByteArray) (l : List Int) (X : Nat) (f : Nat → Value) (e : Exit) (a : Act) (w' : World) : Prop :=
  e = .normal ∧ ∃ (v : Value) (L : List PT) (h : Nat → Value), a = ⟨#[.string s, f 1, f 2, .pointer (some ⟨X, 0, none⟩), v, f 5, f 6, f 7, f 8, f 9, f 10, f 11, f 12, f 13, f 14, f 15, f 16, f 17, f 18, f 19, f 20, f 21, f 22, f 23, f 24, f 25, f 26, h 27, h 28, h 29, h 30, h 31, h 32, f 33, f 34, f 35, f 36, f 37, f 38, f 39, f 40, f 41, f 42, f 43, f 44, f 45], []⟩ ∧ Fa2 (PR s) (ptoks l) L ∧ Rw w' w.heap.size v (spP :: L) ∧ Below w.heap.size w w' ∧ w'.heap[X]? = some (.cells #[.int .i64 38, .int .i64 0, .int .i64 0, .int .i64 0, .bool false, .string ⟨#[]⟩] 28 (0, 0))
set_option maxRecDepth 100000 in
set_option maxHeartbeats 8000000 in
theorem m7_region {w wa : World} {s : ByteArray} {l : List Int} (h : Sfx s l) (h0 : ps s l = 0) (hs : s.size ≤ 524288) (hbom : hd l ≠ 65279) (ho : (toks l).2 = false) (h2 : 2 ≤ w.heap.size) (htab : Lib.Utf8Tabs 0 1 w) (hwa : Below w.heap.size w wa) (X : Nat) (hX : wa.heap[X]? = some (.cells #[.int .i64 38, .int .i64 0, .int .i64 0, .int .i64 0, .bool false, .string ⟨#[]⟩] 28 (0, 0))) (hpl : (ptoks l).length ≤ 1099511627775) (f : Nat → Value) :
    Code.wp Tryz.prog m7R6 (M7Q w s l X f) ⟨#[.string s, f 1, f 2, .pointer (some ⟨X, 0, none⟩), f 4, f 5, f 6, f 7, f 8, f 9, f 10, f 11, f 12, f 13, f 14, f 15, f 16, f 17, f 18, f 19, f 20, f 21, f 22, f 23, f 24, f 25, f 26, f 27, f 28, f 29, f 30, f 31, f 32, f 33, f 34, f 35, f 36, f 37, f 38, f 39, f 40, f 41, f 42, f 43, f 44, f 45], []⟩ wa := by
  conv => arg 2; whnf
  have z : ∀ wz : World, wz.heap[X]? = some (.cells #[.int .i64 38, .int .i64 0, .int .i64 0, .int .i64 0, .bool false, .string ⟨#[]⟩] 28 (0, 0)) → (wz.cell? ⟨X, 0, none⟩ = some (.int .i64 38) ∧ wz.cell? ⟨X, 1, none⟩ = some (.int .i64 0) ∧ wz.cell? ⟨X, 2, none⟩ = some (.int .i64 0) ∧ wz.cell? ⟨X, 3, none⟩ = some (.int .i64 0) ∧ wz.cell? ⟨X, 4, none⟩ = some (.bool false) ∧ wz.cell? ⟨X, 5, none⟩ = some (.string ⟨#[]⟩)) :=
    fun wz e => ⟨(blk_cell e 0).trans rfl, (blk_cell e 1).trans rfl, (blk_cell e 2).trans rfl, (blk_cell e 3).trans rfl, (blk_cell e 4).trans rfl, (blk_cell e 5).trans rfl⟩
  have hQx : ∀ (d : Option Nat) (v : Value) c a w', M7Q w s l X f (.panic c) (Act.put a d v) w' → M7Q w s l X f (.panic c) a w' := fun d v c a w h => by obtain ⟨h, _⟩ := h; cases h
  have hXl := lt_of_blk hX
  refine wp_region_drawn (fun w' => w'.heap[X]? = some (.cells #[.int .i64 38, .int .i64 0, .int .i64 0, .int .i64 0, .bool false, .string ⟨#[]⟩] 28 (0, 0))) (by kernel_rfl) (fun wd hw0 => ?_)
  have hwd : Below w.heap.size w wd := by rw [hw0]; exact ⟨hwa.os, hwa.tape, hwa.output, hwa.size, hwa.block⟩
  have hXd : wd.heap[X]? = some (.cells #[.int .i64 38, .int .i64 0, .int .i64 0, .int .i64 0, .bool false, .string ⟨#[]⟩] 28 (0, 0)) := by rw [hw0]; exact hX
  clear hw0
  refine wpAnyH_take (i := 0) (oi := _) (v := .agg #[.int .i64 38, .int .i64 0, .int .i64 0, .int .i64 0, .bool false, .string ⟨#[]⟩]) rfl (by kernel_rfl) (by kernel_rfl) (by kernel_rfl) (hQx _ _) (.inl ⟨by rfl, fun w' s1 => ?_⟩) hXd ?_
  · obtain ⟨y0, y1, y2, y3, y4, y5⟩ := z _ s1
    go_simp
  refine wpAnyH_take (i := 2) (oi := _) (v := .string s) rfl (by kernel_rfl) (by kernel_rfl) (by kernel_rfl) (hQx _ _) (.inl ⟨by rfl, fun w' s1 => ?_⟩) hXd ?_
  · go_simp
  refine wpAnyH_cast (f' := 5) (x' := #[true, false, true, false, false, false, false]) (a' := ⟨#[.string s, f 1, f 2, .pointer (some ⟨X, 0, none⟩), f 4, f 5, f 6, f 7, f 8, f 9, f 10, f 11, f 12, f 13, f 14, f 15, f 16, f 17, f 18, f 19, f 20, f 21, f 22, f 23, f 24, f 25, f 26, .agg #[.int .i64 38, .int .i64 0, .int .i64 0, .int .i64 0, .bool false, .string ⟨#[]⟩], f 28, .string s, f 30, f 31, f 32, f 33, f 34, f 35, f 36, f 37, f 38, f 39, f 40, f 41, f 42, f 43, f 44, f 45], []⟩) (by kernel_rfl) (by kernel_rfl) (by kernel_rfl) ?_
  refine wpAnyH_all (rs := [1, 3]) (by kernel_rfl) (by decide) ?_
  intro i hi
  rcases List.mem_cons.1 hi with rfl | hi
  · clear hi
    refine wpOp_step (o := _) rfl (fun K2a hK2a => ?_)
    rw [if_pos (by rfl)]
    go_simp
    have hb2 : Below w.heap.size w (wd.alloc (.cells #[.int .i64 38, .int .i64 0, .int .i64 0, .int .i64 0, .bool false, .string ⟨#[]⟩] 28)) := hwd.alloc hwd.size _
    have hx2 : (wd.alloc (.cells #[.int .i64 38, .int .i64 0, .int .i64 0, .int .i64 0, .bool false, .string ⟨#[]⟩] 28)).heap[X]? = some (.cells #[.int .i64 38, .int .i64 0, .int .i64 0, .int .i64 0, .bool false, .string ⟨#[]⟩] 28 (0, 0)) := alloc_old _ hXd
    have hr1 : Rw (wd.alloc (.cells #[.int .i64 38, .int .i64 0, .int .i64 0, .int .i64 0, .bool false, .string ⟨#[]⟩] 28)) w.heap.size (.slice (some ⟨wd.heap.size, 0, none⟩) 1 1) [spP] := Rw.one (heap_alloc_new _ _) hwd.size
    obtain ⟨wn2, hwn⟩ : ∃ x, wd.alloc (.cells #[.int .i64 38, .int .i64 0, .int .i64 0, .int .i64 0, .bool false, .string ⟨#[]⟩] 28) = x := ⟨_, rfl⟩
    rw [hwn] at hb2 hx2 hr1 ⊢
    obtain ⟨kb, hkb⟩ : ∃ x, wd.heap.size = x := ⟨_, rfl⟩
    rw [hkb] at hr1 ⊢
    clear hwn
    refine hK2a _ _ ⟨hx2, ?_⟩
    have hkX : kb ≠ X := by have := lt_of_blk hXd; omega
    refine wpAnyH_cast (f' := 4) (x' := #[true, true, true, false, false, false, false]) (a' := ⟨#[.string s, f 1, f 2, .pointer (some ⟨X, 0, none⟩), f 4, f 5, f 6, f 7, f 8, f 9, f 10, f 11, f 12, f 13, f 14, f 15, f 16, f 17, f 18, f 19, f 20, f 21, f 22, f 23, f 24, f 25, f 26, .agg #[.int .i64 38, .int .i64 0, .int .i64 0, .int .i64 0, .bool false, .string ⟨#[]⟩], .slice (some ⟨kb, 0, none⟩) 1 1, .string s, f 30, f 31, f 32, f 33, f 34, f 35, f 36, f 37, f 38, f 39, f 40, f 41, f 42, f 43, f 44, f 45], []⟩) (by kernel_rfl) (by kernel_rfl) (by kernel_rfl) ?_
    refine wpAnyH_all (rs := [3]) (by kernel_rfl) (by decide) ?_
    intro i hi
    obtain rfl := List.mem_singleton.1 hi
    refine wpOp_step (o := _) rfl (fun K3a hK3a => ?_)
    rw [if_pos (by rfl)]
    go_simp
    go_at_call 12
    refine (Tokens_at h h0 hs hbom ho h2 htab hb2).mono ?_
    rintro e wt3 ⟨vT, L, rfl, hfa, hrT, hbT⟩
    have hb3 := hb2.trans (Below.low hbT hb2.size)
    have hx3 := below_blk hbT hx2 (lt_of_blk hx2)
    have hr1 := hr1.below hbT
    refine hK3a _ _ ⟨hx3, ?_⟩
    refine wpAnyH_cast (f' := 3) (x' := #[true, true, true, true, false, false, false]) (a' := ⟨#[.string s, f 1, f 2, .pointer (some ⟨X, 0, none⟩), f 4, f 5, f 6, f 7, f 8, f 9, f 10, f 11, f 12, f 13, f 14, f 15, f 16, f 17, f 18, f 19, f 20, f 21, f 22, f 23, f 24, f 25, f 26, .agg #[.int .i64 38, .int .i64 0, .int .i64 0, .int .i64 0, .bool false, .string ⟨#[]⟩], .slice (some ⟨kb, 0, none⟩) 1 1, .string s, vT, f 31, f 32, f 33, f 34, f 35, f 36, f 37, f 38, f 39, f 40, f 41, f 42, f 43, f 44, f 45], []⟩) (by kernel_rfl) (by kernel_rfl) (by kernel_rfl) ?_
    refine wpAnyH_all (rs := [4]) (by kernel_rfl) (by decide) ?_
    intro i hi
    obtain rfl := List.mem_singleton.1 hi
    refine wpOp_step (o := _) rfl (fun K4a hK4a => ?_)
    rw [if_pos (by rfl)]
    go_simp
    go_at_call 11
    refine (merged_of hfa ho hrT (Nat.le_succ_of_le hpl) rfl).mono ?_
    rintro e wm4 ⟨vL, rfl, hrL, hbL⟩
    have hb4 := hb3.trans (Below.low hbL hb3.size)
    have hx4 := below_blk hbL hx3 (lt_of_blk hx3)
    have hr1 := hr1.below hbL
    refine hK4a _ _ ⟨hx4, ?_⟩
    refine wpAnyH_cast (f' := 2) (x' := #[true, true, true, true, true, false, false]) (a' := ⟨#[.string s, f 1, f 2, .pointer (some ⟨X, 0, none⟩), f 4, f 5, f 6, f 7, f 8, f 9, f 10, f 11, f 12, f 13, f 14, f 15, f 16, f 17, f 18, f 19, f 20, f 21, f 22, f 23, f 24, f 25, f 26, .agg #[.int .i64 38, .int .i64 0, .int .i64 0, .int .i64 0, .bool false, .string ⟨#[]⟩], .slice (some ⟨kb, 0, none⟩) 1 1, .string s, vT, vL, f 32, f 33, f 34, f 35, f 36, f 37, f 38, f 39, f 40, f 41, f 42, f 43, f 44, f 45], []⟩) (by kernel_rfl) (by kernel_rfl) (by kernel_rfl) ?_
    refine wpAnyH_all (rs := [5]) (by kernel_rfl) (by decide) ?_
    intro i hi
    obtain rfl := List.mem_singleton.1 hi
    refine wpOp_step (o := _) rfl (fun K5a hK5a => ?_)
    rw [if_pos (by rfl)]
    refine wp_append_rw _ _ rfl rfl rfl hr1 hrL (by rw [← hfa.len]; simp; omega) hb4.size ?_
    intro vA wp5 hrA hgA
    have hb5 := hb4.trans (hr1.grown hgA (Nat.le_refl _) hb4.size)
    have hx5 := (Keep.of_grown hgA (fun k => (Value.slice (some ⟨kb, 0, none⟩) 1 1).ownBlock = some k) (fun k e => e)).blk hx4 (fun e => hkX (Option.some.inj e))
    refine hK5a _ _ ⟨hx5, ?_⟩
    refine wpAnyH_cast (f' := 1) (x' := #[true, true, true, true, true, true, false]) (a' := ⟨#[.string s, f 1, f 2, .pointer (some ⟨X, 0, none⟩), f 4, f 5, f 6, f 7, f 8, f 9, f 10, f 11, f 12, f 13, f 14, f 15, f 16, f 17, f 18, f 19, f 20, f 21, f 22, f 23, f 24, f 25, f 26, .agg #[.int .i64 38, .int .i64 0, .int .i64 0, .int .i64 0, .bool false, .string ⟨#[]⟩], .slice (some ⟨kb, 0, none⟩) 1 1, .string s, vT, vL, vA, f 33, f 34, f 35, f 36, f 37, f 38, f 39, f 40, f 41, f 42, f 43, f 44, f 45], []⟩) (by kernel_rfl) (by kernel_rfl) (by kernel_rfl) ?_
    refine wpAnyH_all (rs := [6]) (by kernel_rfl) (by decide) ?_
    intro i hi
    obtain rfl := List.mem_singleton.1 hi
    refine wpOp_step (o := _) rfl (fun K6a hK6a => ?_)
    rw [if_pos (by rfl)]
    go_simp
    refine hK6a _ _ ⟨hx5, ?_⟩
    refine wpAnyH_done (by kernel_rfl) ?_ _
    exact ⟨rfl, vA, L, fun j => if j = 27 then .agg #[.int .i64 38, .int .i64 0, .int .i64 0, .int .i64 0, .bool false, .string ⟨#[]⟩] else if j = 28 then .slice (some ⟨kb, 0, none⟩) 1 1 else if j = 29 then .string s else if j = 30 then vT else if j = 31 then vL else vA, rfl, hfa, hrA, hb5, hx5⟩
  · obtain rfl := List.mem_singleton.1 hi
    refine wpOp_step (o := _) rfl (fun K2b hK2b => ?_)
    rw [if_pos (by rfl)]
    go_simp
    go_at_call 12
    refine (Tokens_at h h0 hs hbom ho h2 htab hwd).mono ?_
    rintro e wt2 ⟨vT, L, rfl, hfa, hrT, hbT⟩
    have hb2 := hwd.trans (Below.low hbT hwd.size)
    have hx2 := below_blk hbT hXd (lt_of_blk hXd)
    refine hK2b _ _ ⟨hx2, ?_⟩
    refine wpAnyH_cast (f' := 4) (x' := #[true, false, true, true, false, false, false]) (a' := ⟨#[.string s, f 1, f 2, .pointer (some ⟨X, 0, none⟩), f 4, f 5, f 6, f 7, f 8, f 9, f 10, f 11, f 12, f 13, f 14, f 15, f 16, f 17, f 18, f 19, f 20, f 21, f 22, f 23, f 24, f 25, f 26, .agg #[.int .i64 38, .int .i64 0, .int .i64 0, .int .i64 0, .bool false, .string ⟨#[]⟩], f 28, .string s, vT, f 31, f 32, f 33, f 34, f 35, f 36, f 37, f 38, f 39, f 40, f 41, f 42, f 43, f 44, f 45], []⟩) (by kernel_rfl) (by kernel_rfl) (by kernel_rfl) ?_
    refine wpAnyH_all (rs := [1, 4]) (by kernel_rfl) (by decide) ?_
    intro i hi
    rcases List.mem_cons.1 hi with rfl | hi
    · clear hi
      refine wpOp_step (o := _) rfl (fun K3c hK3c => ?_)
      rw [if_pos (by rfl)]
      go_simp
      have hb3 : Below w.heap.size w (wt2.alloc (.cells #[.int .i64 38, .int .i64 0, .int .i64 0, .int .i64 0, .bool false, .string ⟨#[]⟩] 28)) := hb2.alloc hb2.size _
      have hx3 : (wt2.alloc (.cells #[.int .i64 38, .int .i64 0, .int .i64 0, .int .i64 0, .bool false, .string ⟨#[]⟩] 28)).heap[X]? = some (.cells #[.int .i64 38, .int .i64 0, .int .i64 0, .int .i64 0, .bool false, .string ⟨#[]⟩] 28 (0, 0)) := alloc_old _ hx2
      have hr1 : Rw (wt2.alloc (.cells #[.int .i64 38, .int .i64 0, .int .i64 0, .int .i64 0, .bool false, .string ⟨#[]⟩] 28)) w.heap.size (.slice (some ⟨wt2.heap.size, 0, none⟩) 1 1) [spP] := Rw.one (heap_alloc_new _ _) hb2.size
      have hrT := hrT.alloc (.cells #[.int .i64 38, .int .i64 0, .int .i64 0, .int .i64 0, .bool false, .string ⟨#[]⟩] 28)
      obtain ⟨wn3, hwn⟩ : ∃ x, wt2.alloc (.cells #[.int .i64 38, .int .i64 0, .int .i64 0, .int .i64 0, .bool false, .string ⟨#[]⟩] 28) = x := ⟨_, rfl⟩
      rw [hwn] at hb3 hx3 hr1 hrT ⊢
      obtain ⟨kb, hkb⟩ : ∃ x, wt2.heap.size = x := ⟨_, rfl⟩
      rw [hkb] at hr1 ⊢
      clear hwn
      refine hK3c _ _ ⟨hx3, ?_⟩
      have hkX : kb ≠ X := by have := lt_of_blk hx2; omega
      refine wpAnyH_cast (f' := 3) (x' := #[true, true, true, true, false, false, false]) (a' := ⟨#[.string s, f 1, f 2, .pointer (some ⟨X, 0, none⟩), f 4, f 5, f 6, f 7, f 8, f 9, f 10, f 11, f 12, f 13, f 14, f 15, f 16, f 17, f 18, f 19, f 20, f 21, f 22, f 23, f 24, f 25, f 26, .agg #[.int .i64 38, .int .i64 0, .int .i64 0, .int .i64 0, .bool false, .string ⟨#[]⟩], .slice (some ⟨kb, 0, none⟩) 1 1, .string s, vT, f 31, f 32, f 33, f 34, f 35, f 36, f 37, f 38, f 39, f 40, f 41, f 42, f 43, f 44, f 45], []⟩) (by kernel_rfl) (by kernel_rfl) (by kernel_rfl) ?_
      refine wpAnyH_all (rs := [4]) (by kernel_rfl) (by decide) ?_
      intro i hi
      obtain rfl := List.mem_singleton.1 hi
      refine wpOp_step (o := _) rfl (fun K4c hK4c => ?_)
      rw [if_pos (by rfl)]
      go_simp
      go_at_call 11
      refine (merged_of hfa ho hrT (Nat.le_succ_of_le hpl) rfl).mono ?_
      rintro e wm4 ⟨vL, rfl, hrL, hbL⟩
      have hb4 := hb3.trans (Below.low hbL hb3.size)
      have hx4 := below_blk hbL hx3 (lt_of_blk hx3)
      have hr1 := hr1.below hbL
      refine hK4c _ _ ⟨hx4, ?_⟩
      refine wpAnyH_cast (f' := 2) (x' := #[true, true, true, true, true, false, false]) (a' := ⟨#[.string s, f 1, f 2, .pointer (some ⟨X, 0, none⟩), f 4, f 5, f 6, f 7, f 8, f 9, f 10, f 11, f 12, f 13, f 14, f 15, f 16, f 17, f 18, f 19, f 20, f 21, f 22, f 23, f 24, f 25, f 26, .agg #[.int .i64 38, .int .i64 0, .int .i64 0, .int .i64 0, .bool false, .string ⟨#[]⟩], .slice (some ⟨kb, 0, none⟩) 1 1, .string s, vT, vL, f 32, f 33, f 34, f 35, f 36, f 37, f 38, f 39, f 40, f 41, f 42, f 43, f 44, f 45], []⟩) (by kernel_rfl) (by kernel_rfl) (by kernel_rfl) ?_
      refine wpAnyH_all (rs := [5]) (by kernel_rfl) (by decide) ?_
      intro i hi
      obtain rfl := List.mem_singleton.1 hi
      refine wpOp_step (o := _) rfl (fun K5c hK5c => ?_)
      rw [if_pos (by rfl)]
      refine wp_append_rw _ _ rfl rfl rfl hr1 hrL (by rw [← hfa.len]; simp; omega) hb4.size ?_
      intro vA wp5 hrA hgA
      have hb5 := hb4.trans (hr1.grown hgA (Nat.le_refl _) hb4.size)
      have hx5 := (Keep.of_grown hgA (fun k => (Value.slice (some ⟨kb, 0, none⟩) 1 1).ownBlock = some k) (fun k e => e)).blk hx4 (fun e => hkX (Option.some.inj e))
      refine hK5c _ _ ⟨hx5, ?_⟩
      refine wpAnyH_cast (f' := 1) (x' := #[true, true, true, true, true, true, false]) (a' := ⟨#[.string s, f 1, f 2, .pointer (some ⟨X, 0, none⟩), f 4, f 5, f 6, f 7, f 8, f 9, f 10, f 11, f 12, f 13, f 14, f 15, f 16, f 17, f 18, f 19, f 20, f 21, f 22, f 23, f 24, f 25, f 26, .agg #[.int .i64 38, .int .i64 0, .int .i64 0, .int .i64 0, .bool false, .string ⟨#[]⟩], .slice (some ⟨kb, 0, none⟩) 1 1, .string s, vT, vL, vA, f 33, f 34, f 35, f 36, f 37, f 38, f 39, f 40, f 41, f 42, f 43, f 44, f 45], []⟩) (by kernel_rfl) (by kernel_rfl) (by kernel_rfl) ?_
      refine wpAnyH_all (rs := [6]) (by kernel_rfl) (by decide) ?_
      intro i hi
      obtain rfl := List.mem_singleton.1 hi
      refine wpOp_step (o := _) rfl (fun K6c hK6c => ?_)
      rw [if_pos (by rfl)]
      go_simp
      refine hK6c _ _ ⟨hx5, ?_⟩
      refine wpAnyH_done (by kernel_rfl) ?_ _
      exact ⟨rfl, vA, L, fun j => if j = 27 then .agg #[.int .i64 38, .int .i64 0, .int .i64 0, .int .i64 0, .bool false, .string ⟨#[]⟩] else if j = 28 then .slice (some ⟨kb, 0, none⟩) 1 1 else if j = 29 then .string s else if j = 30 then vT else if j = 31 then vL else vA, rfl, hfa, hrA, hb5, hx5⟩
    · obtain rfl := List.mem_singleton.1 hi
      refine wpOp_step (o := _) rfl (fun K3d hK3d => ?_)
      rw [if_pos (by rfl)]
      go_simp
      go_at_call 11
      refine (merged_of hfa ho hrT (Nat.le_succ_of_le hpl) rfl).mono ?_
      rintro e wm3 ⟨vL, rfl, hrL, hbL⟩
      have hb3 := hb2.trans (Below.low hbL hb2.size)
      have hx3 := below_blk hbL hx2 (lt_of_blk hx2)
      refine hK3d _ _ ⟨hx3, ?_⟩
      refine wpAnyH_cast (f' := 3) (x' := #[true, false, true, true, true, false, false]) (a' := ⟨#[.string s, f 1, f 2, .pointer (some ⟨X, 0, none⟩), f 4, f 5, f 6, f 7, f 8, f 9, f 10, f 11, f 12, f 13, f 14, f 15, f 16, f 17, f 18, f 19, f 20, f 21, f 22, f 23, f 24, f 25, f 26, .agg #[.int .i64 38, .int .i64 0, .int .i64 0, .int .i64 0, .bool false, .string ⟨#[]⟩], f 28, .string s, vT, vL, f 32, f 33, f 34, f 35, f 36, f 37, f 38, f 39, f 40, f 41, f 42, f 43, f 44, f 45], []⟩) (by kernel_rfl) (by kernel_rfl) (by kernel_rfl) ?_
      refine wpAnyH_all (rs := [1]) (by kernel_rfl) (by decide) ?_
      intro i hi
      obtain rfl := List.mem_singleton.1 hi
      refine wpOp_step (o := _) rfl (fun K4d hK4d => ?_)
      rw [if_pos (by rfl)]
      go_simp
      have hb4 : Below w.heap.size w (wm3.alloc (.cells #[.int .i64 38, .int .i64 0, .int .i64 0, .int .i64 0, .bool false, .string ⟨#[]⟩] 28)) := hb3.alloc hb3.size _
      have hx4 : (wm3.alloc (.cells #[.int .i64 38, .int .i64 0, .int .i64 0, .int .i64 0, .bool false, .string ⟨#[]⟩] 28)).heap[X]? = some (.cells #[.int .i64 38, .int .i64 0, .int .i64 0, .int .i64 0, .bool false, .string ⟨#[]⟩] 28 (0, 0)) := alloc_old _ hx3
      have hr1 : Rw (wm3.alloc (.cells #[.int .i64 38, .int .i64 0, .int .i64 0, .int .i64 0, .bool false, .string ⟨#[]⟩] 28)) w.heap.size (.slice (some ⟨wm3.heap.size, 0, none⟩) 1 1) [spP] := Rw.one (heap_alloc_new _ _) hb3.size
      have hrL := hrL.alloc (.cells #[.int .i64 38, .int .i64 0, .int .i64 0, .int .i64 0, .bool false, .string ⟨#[]⟩] 28)
      obtain ⟨wn4, hwn⟩ : ∃ x, wm3.alloc (.cells #[.int .i64 38, .int .i64 0, .int .i64 0, .int .i64 0, .bool false, .string ⟨#[]⟩] 28) = x := ⟨_, rfl⟩
      rw [hwn] at hb4 hx4 hr1 hrL ⊢
      obtain ⟨kb, hkb⟩ : ∃ x, wm3.heap.size = x := ⟨_, rfl⟩
      rw [hkb] at hr1 ⊢
      clear hwn
      refine hK4d _ _ ⟨hx4, ?_⟩
      have hkX : kb ≠ X := by have := lt_of_blk hx3; omega
      refine wpAnyH_cast (f' := 2) (x' := #[true, true, true, true, true, false, false]) (a' := ⟨#[.string s, f 1, f 2, .pointer (some ⟨X, 0, none⟩), f 4, f 5, f 6, f 7, f 8, f 9, f 10, f 11, f 12, f 13, f 14, f 15, f 16, f 17, f 18, f 19, f 20, f 21, f 22, f 23, f 24, f 25, f 26, .agg #[.int .i64 38, .int .i64 0, .int .i64 0, .int .i64 0, .bool false, .string ⟨#[]⟩], .slice (some ⟨kb, 0, none⟩) 1 1, .string s, vT, vL, f 32, f 33, f 34, f 35, f 36, f 37, f 38, f 39, f 40, f 41, f 42, f 43, f 44, f 45], []⟩) (by kernel_rfl) (by kernel_rfl) (by kernel_rfl) ?_
      refine wpAnyH_all (rs := [5]) (by kernel_rfl) (by decide) ?_
      intro i hi
      obtain rfl := List.mem_singleton.1 hi
      refine wpOp_step (o := _) rfl (fun K5d hK5d => ?_)
      rw [if_pos (by rfl)]
      refine wp_append_rw _ _ rfl rfl rfl hr1 hrL (by rw [← hfa.len]; simp; omega) hb4.size ?_
      intro vA wp5 hrA hgA
      have hb5 := hb4.trans (hr1.grown hgA (Nat.le_refl _) hb4.size)
      have hx5 := (Keep.of_grown hgA (fun k => (Value.slice (some ⟨kb, 0, none⟩) 1 1).ownBlock = some k) (fun k e => e)).blk hx4 (fun e => hkX (Option.some.inj e))
      refine hK5d _ _ ⟨hx5, ?_⟩
      refine wpAnyH_cast (f' := 1) (x' := #[true, true, true, true, true, true, false]) (a' := ⟨#[.string s, f 1, f 2, .pointer (some ⟨X, 0, none⟩), f 4, f 5, f 6, f 7, f 8, f 9, f 10, f 11, f 12, f 13, f 14, f 15, f 16, f 17, f 18, f 19, f 20, f 21, f 22, f 23, f 24, f 25, f 26, .agg #[.int .i64 38, .int .i64 0, .int .i64 0, .int .i64 0, .bool false, .string ⟨#[]⟩], .slice (some ⟨kb, 0, none⟩) 1 1, .string s, vT, vL, vA, f 33, f 34, f 35, f 36, f 37, f 38, f 39, f 40, f 41, f 42, f 43, f 44, f 45], []⟩) (by kernel_rfl) (by kernel_rfl) (by kernel_rfl) ?_
      refine wpAnyH_all (rs := [6]) (by kernel_rfl) (by decide) ?_
      intro i hi
      obtain rfl := List.mem_singleton.1 hi
      refine wpOp_step (o := _) rfl (fun K6d hK6d => ?_)
      rw [if_pos (by rfl)]
      go_simp
      refine hK6d _ _ ⟨hx5, ?_⟩
      refine wpAnyH_done (by kernel_rfl) ?_ _
      exact ⟨rfl, vA, L, fun j => if j = 27 then .agg #[.int .i64 38, .int .i64 0, .int .i64 0, .int .i64 0, .bool false, .string ⟨#[]⟩] else if j = 28 then .slice (some ⟨kb, 0, none⟩) 1 1 else if j = 29 then .string s else if j = 30 then vT else if j = 31 then vL else vA, rfl, hfa, hrA, hb5, hx5⟩
theorem m7_letters (g : Nat → Value) : (List.range' 0 46).map (fun i => g (i - 0)) = [g 0, g 1, g 2, g 3, g 4, g 5, g 6, g 7, g 8, g 9, g 10, g 11, g 12, g 13, g 14, g 15, g 16, g 17, g 18, g 19, g 20, g 21, g 22, g 23, g 24, g 25, g 26, g 27, g 28, g 29, g 30, g 31, g 32, g 33, g 34, g 35, g 36, g 37, g 38, g 39, g 40, g 41, g 42, g 43, g 44, g 45] := rfl
theorem m7_at {w wa : World} {s : ByteArray} {l : List Int} (h : Sfx s l) (h0 : ps s l = 0) (hs : s.size ≤ 524288) (hbom : hd l ≠ 65279) (ho : (toks l).2 = false) (h2 : 2 ≤ w.heap.size) (htab : Lib.Utf8Tabs 0 1 w) (hwa : Below w.heap.size w wa) (X : Nat) (hX : wa.heap[X]? = some (.cells #[.int .i64 38, .int .i64 0, .int .i64 0, .int .i64 0, .bool false, .string ⟨#[]⟩] 28 (0, 0))) (hpl : (ptoks l).length ≤ 1099511627775) (t : Array Value) (ht : t.size = 46) (hs0 : t.toList.getD 0 undef = .string s) (h3 : t.toList.getD 3 undef = .pointer (some ⟨X, 0, none⟩)) :
    Code.wp Tryz.prog m7R6 (M7Q w s l X (fun j => t.toList.getD j undef)) ⟨t, []⟩ wa := by
  obtain ⟨tl⟩ := t
  have e := t12_list tl undef 0
  rw [show tl.length = 46 from ht, m7_letters (fun i => tl.getD i undef)] at e
  have e2 := congrArg List.toArray e
  simp only at hs0 h3 e2
  rw [hs0, h3] at e2
  refine Eq.mp (congrArg (fun z => Code.wp Tryz.prog m7R6 (M7Q w s l X (fun j => tl.getD j undef)) ⟨z, []⟩ wa) e2.symm) ?_
  exact m7_region h h0 hs hbom ho h2 htab hwa X hX hpl (fun j => tl.getD j undef)
theorem wt_sp : Wt ⟨#[32, 9]⟩ [32, 9] := wt_ascii [32, 9] _ (by decide) (rn_ascii (by decide))
theorem wt_pn : Wt ⟨#[47, 42, 42, 47, 10]⟩ [47, 42, 42, 47, 10] := wt_ascii [47, 42, 42, 47, 10] _ (by decide) (rn_ascii (by decide))
theorem wt_spaces {s : ByteArray} {l : List Int} (h : Wt s l) : Wt (⟨#[32, 9]⟩ ++ s ++ ⟨#[47, 42, 42, 47, 10]⟩) (32 :: 9 :: (l ++ [47, 42, 42, 47, 10])) := by
  have := wt_app (wt_app wt_sp h) wt_pn
  simpa using this
theorem size_spaces (s : ByteArray) : (⟨#[32, 9]⟩ ++ s ++ ⟨#[47, 42, 42, 47, 10]⟩ : ByteArray).size = s.size + 7 := by
  rw [ByteArray.size_append, ByteArray.size_append]
  show 2 + s.size + 5 = _
  omega
/-- The law, in plain lists. -/
theorem plain7 {s t : ByteArray} {l : List Int} {L L2 : List PT} (ho : (toks l).2 = false) (h : Fa2 (PR s) (ptoks l) L) (h2 : Fa2 (PR t) (ptoks (32 :: 9 :: (l ++ [47, 42, 42, 47, 10]))) L2) : allAlikeB L2 (spP :: L ++ [spP]) = true := by
  have hv := spaces_view ho
  apply allAlike_of
  rw [PR.view h2 hv.1, hv.2, mrg_idem _ _ _ _ (fun q => q)]
  rw [List.cons_append, List.map_cons, List.map_append, PR.view h ho]
  rfl
set_option maxRecDepth 100000 in
set_option maxHeartbeats 8000000 in
theorem law7 {w : World} (s : ByteArray) (h2 : 2 ≤ w.heap.size) (htab : Lib.Utf8Tabs 0 1 w) : Calls Tryz.prog 7 #[.string s] w (LawP w) := by
  by_cases hbig : (s.size : Int) > 2147483647
  · go_enter Tryz.func7, Tryz.ntmps7
    go_wp2_with fail
    go_ret
    exact ⟨rfl, Below.refl _ _⟩
  · go_enter Tryz.func7, Tryz.ntmps7
    go_wp2_with fail
    refine (whole_calls s (by omega) _).mono ?_
    rintro e w1 ⟨b, rfl, hb1, hK1⟩
    have hb := hK1.law
    cases b with
    | false =>
      clear hb1
      go_wp2_with (go_at_call 10; refine (wakes_at h2 htab hb).mono ?_; rintro e w2 ⟨rfl, hb2⟩)
      go_ret
      exact ⟨rfl, hb2⟩
    | true =>
      obtain ⟨l, hW⟩ := hb1 rfl
      have hsz := hW.2.2.2.2
      have HW := Lib.hid hW
      have i1 := bt_at s (s.size - 1)
      have r1 := bt_range s (s.size - 1)
      have h5 : ((s.size : Int) - 1).toNat = s.size - 1 := by omega
      clear hb1 hW hK1
      by_cases hq : 0 < s.size ∧ (bt s (s.size - 1) == 92) = true
      · obtain ⟨q1, q2⟩ := hq
        have q3 : (0 : Int) < (s.size : Int) := by omega
        have hcast : ((s.size : Int) - 1) = ((s.size - 1 : Nat) : Int) := by omega
        go_wp2_with (go_at_call 10; refine (wakes_at h2 htab hb).mono ?_; rintro e w2 ⟨rfl, hb2⟩)
        go_ret
        exact ⟨rfl, hb2⟩
      · have hq' : ((0 : Int) < (s.size : Int) ∧ (bt s (s.size - 1) == 92) = false) ∨ ¬ ((0 : Int) < (s.size : Int)) := by
          by_cases z : 0 < s.size
          · refine .inl ⟨by omega, ?_⟩
            cases q : (bt s (s.size - 1) == 92) with
            | false => rfl
            | true => exact absurd ⟨z, q⟩ hq
          · exact .inr (by omega)
        clear hq
        rcases hq' with ⟨q3, q2⟩ | q3
        all_goals
          go_upto_region 6 with (fail)
          refine wp_mono (m7_at HW.out.1 HW.out.2.1 (by omega) HW.out.2.2.1 HW.out.2.2.2.1 h2 htab (hb.alloc hb.size _) w1.heap.size (heap_alloc_new _ _) (by have := HW.out.few; omega) _ rfl rfl rfl) ?_
          rintro e a w3 ⟨rfl, v, L, h', rfl, hfa, hrw, hb3, hX3⟩
          simp only [List.getD_cons_zero, List.getD_cons_succ]
          have HF := Lib.hid hfa
          have HR := Lib.hid hrw
          have HLT : Hid (∀ k, v.ownBlock = some k → k < w3.heap.size) := Lib.hid (fun k e => (hrw.lt k e).2)
          have hpv := spaces_view HW.out.2.2.2.1
          have hsz2 : (⟨#[32, 9]⟩ ++ s ++ ⟨#[47, 42, 42, 47, 10]⟩ : ByteArray).size ≤ 524288 := by rw [size_spaces]; omega
          have HSZ := Lib.hid hsz2
          have hx := Tokens_at (w := w) (w1 := w3) (wt_spaces HW.out.wt).sfx (wt_spaces HW.out.wt).ps hsz2 (show (32 : Int) ≠ 65279 by decide) hpv.1 h2 htab hb3
          clear hfa hrw hpv i1 r1 h5 q3 hbig hb
          go_upto_region 8 with (go_at_call 12; refine hx.mono ?_; rintro e w4 ⟨v2, L2, rfl, hfa2, hrw2, hb4⟩)
          have hX4 := below_blk hb4 hX3 (lt_of_blk hX3)
          have z0 : w4.cell? ⟨w1.heap.size, 0, none⟩ = some (.int .i64 38) := (blk_cell hX4 0).trans rfl
          have z1 : w4.cell? ⟨w1.heap.size, 1, none⟩ = some (.int .i64 0) := (blk_cell hX4 1).trans rfl
          have z2 : w4.cell? ⟨w1.heap.size, 2, none⟩ = some (.int .i64 0) := (blk_cell hX4 2).trans rfl
          have z3 : w4.cell? ⟨w1.heap.size, 3, none⟩ = some (.int .i64 0) := (blk_cell hX4 3).trans rfl
          have z4 : w4.cell? ⟨w1.heap.size, 4, none⟩ = some (.bool false) := (blk_cell hX4 4).trans rfl
          have z5 : w4.cell? ⟨w1.heap.size, 5, none⟩ = some (.string ⟨#[]⟩) := (blk_cell hX4 5).trans rfl
          have HP : Hid (allAlikeB L2 (spP :: L ++ [spP]) = true) := Lib.hid (plain7 HW.out.2.2.2.1 HF.out hfa2)
          have HR4 := Lib.hid (HR.out.below hb4)
          have HR2 := Lib.hid hrw2
          have hb5 := below_more hb3 hb4
          have HL : Hid (L.length ≤ 32768) := Lib.hid (HF.out.few HW.out.1 hsz)
          have HL2 : Hid (L2.length ≤ 524288) := Lib.hid (hfa2.few (wt_spaces HW.out.wt).sfx HSZ.out)
          clear hfa2 hrw2 hX3 hx hsz2
          have hb6 := below_more hb5 ((Keep.refl (fun _ => False) w4).alloc (.cells #[.int .i64 38, .int .i64 0, .int .i64 0, .int .i64 0, .bool false, .string ⟨#[]⟩] 28)).law
          go_wp2_with (first
            | (at_builtin; go_loud (refine wpList_append_rw rfl _ _ rfl rfl rfl (Rw.alloc HR4.out _) (Rw.one (heap_alloc_new w4 _) (Nat.le_refl _)) (by have := HL.out; simp; omega) hb6.size ?_; intro vA w5 hrA hgA; have hbA := Rw.grown (Rw.alloc HR4.out (.cells #[.int .i64 38, .int .i64 0, .int .i64 0, .int .i64 0, .bool false, .string ⟨#[]⟩] 28)) hgA (Nat.le_refl _) hb6.size; have HRA := Lib.hid hrA; have hb7 := hb6.trans hbA; have HR5 := Lib.hid (Rw.apart (Rw.alloc HR2.out _) hgA HLT.out); clear hrA hgA))
            | (go_at_call 18; refine (allAlike_calls HR5.out HRA.out (by have := HL2.out; omega) (by have := HL.out; simp; omega)).mono ?_; rintro e w6 ⟨rfl, hb8⟩; have hb9 := below_more hb7 hb8; rw [HP.out])
            | (go_at_call 10; refine (wakes_at h2 htab hb9).mono ?_; rintro e w8 ⟨rfl, hb10⟩))
          go_ret
          exact ⟨rfl, hb10⟩
end Go.Proofs.YtedckphklebndaaGreatDoor
