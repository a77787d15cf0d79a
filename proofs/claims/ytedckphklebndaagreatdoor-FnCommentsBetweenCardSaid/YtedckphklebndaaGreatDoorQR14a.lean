/- The regions of the package's consumeToEndOfMultiLineComment that put a comment into a row of the lexer. Conditions: the row lies in memory of its own. -/
import Derived.Test.YtedckphklebndaaGreatDoorQGT0
import Derived.Test.YtedckphklebndaaGreatDoorQR13
import Derived.OrdersHeld
namespace Go.Proofs.YtedckphklebndaaGreatDoor
open Go Go.RowKit
theorem wp_region_drawn {P : Program} {ops : Array Oper} {Q : Exit → Act → World → Prop} (S : World → Prop) {id : Nat} {a : Act} {w : World} (hm : P.follows .mixedOrders = true)
    (h : ∀ wd, wd = w.drew → wpAnyH P .any ops Q S ops.size (Array.replicate ops.size false) a wd) : (Code.region id ops true).wp P Q a w := wp_region_held hm (h _ rfl)
set_option maxRecDepth 100000 in
theorem r14_letters (g : Nat → Value) : (List.range' 0 186).map (fun i => g (i - 0)) = [g 0, g 1, g 2, g 3, g 4, g 5, g 6, g 7, g 8, g 9, g 10, g 11, g 12, g 13, g 14, g 15, g 16, g 17, g 18, g 19, g 20, g 21, g 22, g 23, g 24, g 25, g 26, g 27, g 28, g 29, g 30, g 31, g 32, g 33, g 34, g 35, g 36, g 37, g 38, g 39, g 40, g 41, g 42, g 43, g 44, g 45, g 46, g 47, g 48, g 49, g 50, g 51, g 52, g 53, g 54, g 55, g 56, g 57, g 58, g 59, g 60, g 61, g 62, g 63, g 64, g 65, g 66, g 67, g 68, g 69, g 70, g 71, g 72, g 73, g 74, g 75, g 76, g 77, g 78, g 79, g 80, g 81, g 82, g 83, g 84, g 85, g 86, g 87, g 88, g 89, g 90, g 91, g 92, g 93, g 94, g 95, g 96, g 97, g 98, g 99, g 100, g 101, g 102, g 103, g 104, g 105, g 106, g 107, g 108, g 109, g 110, g 111, g 112, g 113, g 114, g 115, g 116, g 117, g 118, g 119, g 120, g 121, g 122, g 123, g 124, g 125, g 126, g 127, g 128, g 129, g 130, g 131, g 132, g 133, g 134, g 135, g 136, g 137, g 138, g 139, g 140, g 141, g 142, g 143, g 144, g 145, g 146, g 147, g 148, g 149, g 150, g 151, g 152, g 153, g 154, g 155, g 156, g 157, g 158, g 159, g 160, g 161, g 162, g 163, g 164, g 165, g 166, g 167, g 168, g 169, g 170, g 171, g 172, g 173, g 174, g 175, g 176, g 177, g 178, g 179, g 180, g 181, g 182, g 183, g 184, g 185] := rfl
noncomputable def r14R26 : Code := (((Tryz.f75.body.map regions).getD []).find? (fun c => match c with | .region i _ _ => i == 26 | _ => false)).getD .skip
/-- What it leaves: one more in the row. -/
def r14R26Q (w : World) (g P B n : Nat) (v : Value) (xs : List Value) (a b : Int) (f : Nat → Value) (e : Exit) (x : Act) (w' : World) : Prop :=
  e = .normal ∧ ∃ (gg cap : Nat) (w7 wq : World) (h : Nat → Value), x = ⟨#[.pointer (some ⟨g, 0, none⟩), f 1, f 2, f 3, f 4, f 5, f 6, f 7, f 8, f 9, .pointer (some ⟨P, 0, none⟩), f 11, f 12, f 13, f 14, f 15, f 16, f 17, f 18, f 19, f 20, f 21, f 22, f 23, f 24, f 25, f 26, f 27, f 28, f 29, f 30, f 31, f 32, f 33, f 34, f 35, f 36, f 37, f 38, f 39, f 40, f 41, f 42, f 43, f 44, f 45, f 46, f 47, f 48, f 49, f 50, f 51, f 52, f 53, f 54, f 55, f 56, f 57, f 58, f 59, f 60, f 61, f 62, f 63, f 64, f 65, f 66, f 67, f 68, f 69, f 70, f 71, f 72, f 73, f 74, f 75, f 76, f 77, f 78, f 79, f 80, f 81, f 82, f 83, f 84, f 85, f 86, f 87, f 88, f 89, f 90, f 91, f 92, f 93, f 94, f 95, f 96, f 97, f 98, f 99, f 100, f 101, f 102, f 103, f 104, f 105, f 106, f 107, f 108, f 109, f 110, f 111, f 112, f 113, f 114, f 115, f 116, f 117, f 118, h 119, h 120, h 121, h 122, h 123, h 124, h 125, h 126, h 127, h 128, f 129, f 130, f 131, f 132, f 133, f 134, f 135, f 136, f 137, f 138, f 139, f 140, f 141, f 142, f 143, f 144, f 145, f 146, f 147, f 148, f 149, f 150, f 151, f 152, f 153, f 154, f 155, f 156, f 157, f 158, f 159, f 160, f 161, f 162, f 163, f 164, f 165, f 166, f 167, f 168, f 169, f 170, f 171, f 172, f 173, f 174, f 175, f 176, f 177, f 178, f 179, f 180, f 181, f 182, f 183, f 184, f 185], []⟩ ∧ w7.ownsRow B 50 2 (.slice (some ⟨gg, 0, none⟩) (n + 1) cap) (n + 1) (xs ++ [.int .i32 a, .int .i32 b]) ∧ KeepA w wq ∧ wq.grownBy w7 v.ownBlock ∧ (v.ownBlock = some gg ∨ wq.heap.size ≤ gg) ∧ w' = w7.setCell ⟨g, 17, none⟩ (.slice (some ⟨gg, 0, none⟩) (n + 1) cap)
set_option maxRecDepth 100000 in
set_option maxHeartbeats 8000000 in
theorem r14R26_wp {w : World} {g P B n : Nat} {v : Value} {xs : List Value} {a b : Int} (hP : w.heap[P]? = some (.cells #[.int .i32 a, .int .i32 b] 50 (0, 0))) (hc : w.cell? ⟨g, 17, none⟩ = some v) (hf : w.frozen? ⟨g, 17, none⟩ = false) (hown : w.ownsRow B 50 2 v n xs) (hn : n ≤ 1099511627776) (hB : B ≤ w.heap.size) (hg : g < w.heap.size) (hgP : P ≠ g) (hvg : v.ownBlock ≠ some g) (hvP : v.ownBlock ≠ some P) (f : Nat → Value) :
    Code.wp Tryz.prog r14R26 (r14R26Q w g P B n v xs a b f) ⟨#[.pointer (some ⟨g, 0, none⟩), f 1, f 2, f 3, f 4, f 5, f 6, f 7, f 8, f 9, .pointer (some ⟨P, 0, none⟩), f 11, f 12, f 13, f 14, f 15, f 16, f 17, f 18, f 19, f 20, f 21, f 22, f 23, f 24, f 25, f 26, f 27, f 28, f 29, f 30, f 31, f 32, f 33, f 34, f 35, f 36, f 37, f 38, f 39, f 40, f 41, f 42, f 43, f 44, f 45, f 46, f 47, f 48, f 49, f 50, f 51, f 52, f 53, f 54, f 55, f 56, f 57, f 58, f 59, f 60, f 61, f 62, f 63, f 64, f 65, f 66, f 67, f 68, f 69, f 70, f 71, f 72, f 73, f 74, f 75, f 76, f 77, f 78, f 79, f 80, f 81, f 82, f 83, f 84, f 85, f 86, f 87, f 88, f 89, f 90, f 91, f 92, f 93, f 94, f 95, f 96, f 97, f 98, f 99, f 100, f 101, f 102, f 103, f 104, f 105, f 106, f 107, f 108, f 109, f 110, f 111, f 112, f 113, f 114, f 115, f 116, f 117, f 118, f 119, f 120, f 121, f 122, f 123, f 124, f 125, f 126, f 127, f 128, f 129, f 130, f 131, f 132, f 133, f 134, f 135, f 136, f 137, f 138, f 139, f 140, f 141, f 142, f 143, f 144, f 145, f 146, f 147, f 148, f 149, f 150, f 151, f 152, f 153, f 154, f 155, f 156, f 157, f 158, f 159, f 160, f 161, f 162, f 163, f 164, f 165, f 166, f 167, f 168, f 169, f 170, f 171, f 172, f 173, f 174, f 175, f 176, f 177, f 178, f 179, f 180, f 181, f 182, f 183, f 184, f 185], []⟩ w := by
  conv => arg 2; whnf
  have z : ∀ wz : World, wz.heap[P]? = some (.cells #[.int .i32 a, .int .i32 b] 50 (0, 0)) → (wz.cell? ⟨P, 0, none⟩ = some (.int .i32 a) ∧ wz.cell? ⟨P, 1, none⟩ = some (.int .i32 b)) := fun wz e => ⟨(blk_cell e 0).trans rfl, (blk_cell e 1).trans rfl⟩
  have hQx : ∀ (d : Option Nat) (u : Value) c x w', r14R26Q w g P B n v xs a b f (.panic c) (Act.put x d u) w' → r14R26Q w g P B n v xs a b f (.panic c) x w' := fun d u c x w h => by obtain ⟨h, _⟩ := h; cases h
  refine wp_region_drawn (fun w' => w'.heap[P]? = some (.cells #[.int .i32 a, .int .i32 b] 50 (0, 0))) (by kernel_rfl) (fun wd hw0 => ?_)
  have hKd : KeepA w wd := by rw [hw0]; exact (Keep.refl _ _).drew
  have hPd : wd.heap[P]? = some (.cells #[.int .i32 a, .int .i32 b] 50 (0, 0)) := by rw [hw0]; exact hP
  have hcd : wd.cell? ⟨g, 17, none⟩ = some v := by rw [hw0]; exact hc
  have hfd : wd.frozen? ⟨g, 17, none⟩ = false := by rw [hw0]; exact hf
  have hownd : wd.ownsRow B 50 2 v n xs := hKd.own hown (fun _ _ e => e)
  have HSZ : Hid (wd.heap.size = w.heap.size) := Lib.hid (by rw [hw0]; rfl)
  clear hw0
  obtain ⟨i0, hi0, hz0, hz1, hz2⟩ := info_parts info50
  refine wpAnyH_take (i := 0) (oi := _) (v := .pointer (some ⟨g, 0, none⟩)) rfl (by kernel_rfl) (by kernel_rfl) (by kernel_rfl) (hQx _ _) (.inl ⟨by rfl, fun w' s1 => ?_⟩) hPd ?_
  · obtain ⟨y0, y1⟩ := z _ s1
    go_simp
  refine wpAnyH_take (i := 1) (oi := _) (v := .pointer (some ⟨g, 0, none⟩)) rfl (by kernel_rfl) (by kernel_rfl) (by kernel_rfl) (hQx _ _) (.inl ⟨by rfl, fun w' s1 => ?_⟩) hPd ?_
  · obtain ⟨y0, y1⟩ := z _ s1
    go_simp
  refine wpAnyH_take (i := 2) (oi := _) (v := .pointer (some ⟨g, 0, none⟩)) rfl (by kernel_rfl) (by kernel_rfl) (by kernel_rfl) (hQx _ _) (.inl ⟨by rfl, fun w' s1 => ?_⟩) hPd ?_
  · obtain ⟨y0, y1⟩ := z _ s1
    go_simp
  refine wpAnyH_take (i := 3) (oi := _) (v := .pointer (some ⟨g, 17, none⟩)) rfl (by kernel_rfl) (by kernel_rfl) (by kernel_rfl) (hQx _ _) (.inl ⟨by rfl, fun w' s1 => ?_⟩) hPd ?_
  · obtain ⟨y0, y1⟩ := z _ s1
    go_simp
  refine wpAnyH_take (i := 5) (oi := _) (v := .agg #[.int .i32 a, .int .i32 b]) rfl (by kernel_rfl) (by kernel_rfl) (by kernel_rfl) (hQx _ _) (.inl ⟨by rfl, fun w' s1 => ?_⟩) hPd ?_
  · obtain ⟨y0, y1⟩ := z _ s1
    go_simp
  refine wpAnyH_cast (f' := 6) (x' := #[true, true, true, true, false, true, false, false, false, false, false]) (a' := ⟨#[.pointer (some ⟨g, 0, none⟩), f 1, f 2, f 3, f 4, f 5, f 6, f 7, f 8, f 9, .pointer (some ⟨P, 0, none⟩), f 11, f 12, f 13, f 14, f 15, f 16, f 17, f 18, f 19, f 20, f 21, f 22, f 23, f 24, f 25, f 26, f 27, f 28, f 29, f 30, f 31, f 32, f 33, f 34, f 35, f 36, f 37, f 38, f 39, f 40, f 41, f 42, f 43, f 44, f 45, f 46, f 47, f 48, f 49, f 50, f 51, f 52, f 53, f 54, f 55, f 56, f 57, f 58, f 59, f 60, f 61, f 62, f 63, f 64, f 65, f 66, f 67, f 68, f 69, f 70, f 71, f 72, f 73, f 74, f 75, f 76, f 77, f 78, f 79, f 80, f 81, f 82, f 83, f 84, f 85, f 86, f 87, f 88, f 89, f 90, f 91, f 92, f 93, f 94, f 95, f 96, f 97, f 98, f 99, f 100, f 101, f 102, f 103, f 104, f 105, f 106, f 107, f 108, f 109, f 110, f 111, f 112, f 113, f 114, f 115, f 116, f 117, f 118, .pointer (some ⟨g, 0, none⟩), .pointer (some ⟨g, 0, none⟩), .pointer (some ⟨g, 0, none⟩), .pointer (some ⟨g, 17, none⟩), f 123, .agg #[.int .i32 a, .int .i32 b], f 125, f 126, f 127, f 128, f 129, f 130, f 131, f 132, f 133, f 134, f 135, f 136, f 137, f 138, f 139, f 140, f 141, f 142, f 143, f 144, f 145, f 146, f 147, f 148, f 149, f 150, f 151, f 152, f 153, f 154, f 155, f 156, f 157, f 158, f 159, f 160, f 161, f 162, f 163, f 164, f 165, f 166, f 167, f 168, f 169, f 170, f 171, f 172, f 173, f 174, f 175, f 176, f 177, f 178, f 179, f 180, f 181, f 182, f 183, f 184, f 185], []⟩) (by kernel_rfl) (by kernel_rfl) (by kernel_rfl) ?_
  refine wpAnyH_all (rs := [4, 6]) (by kernel_rfl) (by decide) ?_
  intro i hi
  rcases List.mem_cons.1 hi with rfl | hi
  · clear hi
    refine wpOp_step (o := _) rfl (fun K1 hK1 => ?_)
    rw [if_pos (by rfl)]
    go_simp
    refine hK1 _ _ ⟨hPd, ?_⟩
    refine wpAnyH_cast (f' := 5) (x' := #[true, true, true, true, true, true, false, false, false, false, false]) (a' := ⟨#[.pointer (some ⟨g, 0, none⟩), f 1, f 2, f 3, f 4, f 5, f 6, f 7, f 8, f 9, .pointer (some ⟨P, 0, none⟩), f 11, f 12, f 13, f 14, f 15, f 16, f 17, f 18, f 19, f 20, f 21, f 22, f 23, f 24, f 25, f 26, f 27, f 28, f 29, f 30, f 31, f 32, f 33, f 34, f 35, f 36, f 37, f 38, f 39, f 40, f 41, f 42, f 43, f 44, f 45, f 46, f 47, f 48, f 49, f 50, f 51, f 52, f 53, f 54, f 55, f 56, f 57, f 58, f 59, f 60, f 61, f 62, f 63, f 64, f 65, f 66, f 67, f 68, f 69, f 70, f 71, f 72, f 73, f 74, f 75, f 76, f 77, f 78, f 79, f 80, f 81, f 82, f 83, f 84, f 85, f 86, f 87, f 88, f 89, f 90, f 91, f 92, f 93, f 94, f 95, f 96, f 97, f 98, f 99, f 100, f 101, f 102, f 103, f 104, f 105, f 106, f 107, f 108, f 109, f 110, f 111, f 112, f 113, f 114, f 115, f 116, f 117, f 118, .pointer (some ⟨g, 0, none⟩), .pointer (some ⟨g, 0, none⟩), .pointer (some ⟨g, 0, none⟩), .pointer (some ⟨g, 17, none⟩), v, .agg #[.int .i32 a, .int .i32 b], f 125, f 126, f 127, f 128, f 129, f 130, f 131, f 132, f 133, f 134, f 135, f 136, f 137, f 138, f 139, f 140, f 141, f 142, f 143, f 144, f 145, f 146, f 147, f 148, f 149, f 150, f 151, f 152, f 153, f 154, f 155, f 156, f 157, f 158, f 159, f 160, f 161, f 162, f 163, f 164, f 165, f 166, f 167, f 168, f 169, f 170, f 171, f 172, f 173, f 174, f 175, f 176, f 177, f 178, f 179, f 180, f 181, f 182, f 183, f 184, f 185], []⟩) (by kernel_rfl) (by kernel_rfl) (by kernel_rfl) ?_
    refine wpAnyH_all (rs := [6]) (by kernel_rfl) (by decide) ?_
    intro i hi
    obtain rfl := List.mem_singleton.1 hi
    refine wpOp_step (o := _) rfl (fun K2 hK2 => ?_)
    rw [if_pos (by rfl)]
    go_simp
    have hxn : (wd.alloc (.cells #[.int .i32 a, .int .i32 b] 50)).heap[P]? = some (.cells #[.int .i32 a, .int .i32 b] 50 (0, 0)) := alloc_old _ hPd
    have hnb : (wd.alloc (.cells #[.int .i32 a, .int .i32 b] 50)).heap[wd.heap.size]? = some (.cells #[.int .i32 a, .int .i32 b] 50 (0, 0)) := heap_alloc_new _ _
    have hKn : KeepA w (wd.alloc (.cells #[.int .i32 a, .int .i32 b] 50)) := hKd.alloc _
    have hon : (wd.alloc (.cells #[.int .i32 a, .int .i32 b] 50)).ownsRow B 50 2 v n xs := hownd.alloc _
    have hcn : (wd.alloc (.cells #[.int .i32 a, .int .i32 b] 50)).cell? ⟨g, 17, none⟩ = some v := (World.cell?_alloc_past _ _ _ (by have := HSZ.out; show g < _; omega)).trans hcd
    have hfn : (wd.alloc (.cells #[.int .i32 a, .int .i32 b] 50)).frozen? ⟨g, 17, none⟩ = false := (World.frozen?_alloc_past _ _ _ (by have := HSZ.out; show g < _; omega)).trans hfd
    have hzn : (wd.alloc (.cells #[.int .i32 a, .int .i32 b] 50)).heap.size = w.heap.size + 1 := by simp [HSZ.out]
    obtain ⟨wn, hwn⟩ : ∃ y, wd.alloc (.cells #[.int .i32 a, .int .i32 b] 50) = y := ⟨_, rfl⟩
    rw [hwn] at hxn hnb hKn hon hcn hfn hzn ⊢
    obtain ⟨kb, hkb⟩ : ∃ y, wd.heap.size = y := ⟨_, rfl⟩
    rw [hkb] at hnb ⊢
    refine hK2 _ _ ⟨hxn, ?_⟩
    refine wpAnyH_cast (f' := 4) (x' := #[true, true, true, true, true, true, true, false, false, false, false]) (a' := ⟨#[.pointer (some ⟨g, 0, none⟩), f 1, f 2, f 3, f 4, f 5, f 6, f 7, f 8, f 9, .pointer (some ⟨P, 0, none⟩), f 11, f 12, f 13, f 14, f 15, f 16, f 17, f 18, f 19, f 20, f 21, f 22, f 23, f 24, f 25, f 26, f 27, f 28, f 29, f 30, f 31, f 32, f 33, f 34, f 35, f 36, f 37, f 38, f 39, f 40, f 41, f 42, f 43, f 44, f 45, f 46, f 47, f 48, f 49, f 50, f 51, f 52, f 53, f 54, f 55, f 56, f 57, f 58, f 59, f 60, f 61, f 62, f 63, f 64, f 65, f 66, f 67, f 68, f 69, f 70, f 71, f 72, f 73, f 74, f 75, f 76, f 77, f 78, f 79, f 80, f 81, f 82, f 83, f 84, f 85, f 86, f 87, f 88, f 89, f 90, f 91, f 92, f 93, f 94, f 95, f 96, f 97, f 98, f 99, f 100, f 101, f 102, f 103, f 104, f 105, f 106, f 107, f 108, f 109, f 110, f 111, f 112, f 113, f 114, f 115, f 116, f 117, f 118, .pointer (some ⟨g, 0, none⟩), .pointer (some ⟨g, 0, none⟩), .pointer (some ⟨g, 0, none⟩), .pointer (some ⟨g, 17, none⟩), v, .agg #[.int .i32 a, .int .i32 b], .slice (some ⟨kb, 0, none⟩) 1 1, f 126, f 127, f 128, f 129, f 130, f 131, f 132, f 133, f 134, f 135, f 136, f 137, f 138, f 139, f 140, f 141, f 142, f 143, f 144, f 145, f 146, f 147, f 148, f 149, f 150, f 151, f 152, f 153, f 154, f 155, f 156, f 157, f 158, f 159, f 160, f 161, f 162, f 163, f 164, f 165, f 166, f 167, f 168, f 169, f 170, f 171, f 172, f 173, f 174, f 175, f 176, f 177, f 178, f 179, f 180, f 181, f 182, f 183, f 184, f 185], []⟩) (by kernel_rfl) (by kernel_rfl) (by kernel_rfl) ?_
    refine wpAnyH_all (rs := [7]) (by kernel_rfl) (by decide) ?_
    intro i hi
    obtain rfl := List.mem_singleton.1 hi
    refine wpOp_step (o := _) rfl (fun K3 hK3 => ?_)
    rw [if_pos (by rfl)]
    refine wp_append_lies _ _ _ 45 rfl B 50 i0 _ 2 8 Tryz.underlying45 hi0 hz0 hz1 hz2 rfl (by decide) v n xs rfl hon ⟨kb, 0, none⟩ 1 1 [.int .i32 a, .int .i32 b] rfl rfl (World.news_of_block (cs := #[.int .i32 a, .int .i32 b]) (t := 50) (fr := (0, 0)) hnb) (by simp [Value.oneCell']) (by decide) (by unfold maxLen; omega) (by omega) (by omega) (w.heap.size + 1) hzn ?_
    intro gg cap w7 hown7 hgrow hat hlt7
    have hx7 := (Keep.of_grown hgrow (fun j => v.ownBlock = some j) (fun j e => e)).blk hxn hvP
    have hc7 : w7.cell? ⟨g, 17, none⟩ = some v := (hgrow.cell_far ⟨g, 17, none⟩ (by have := HSZ.out; show g < _; omega) (Ne.symm hvg)).trans hcn
    have hf7 : w7.frozen? ⟨g, 17, none⟩ = false := (hgrow.frozen_far ⟨g, 17, none⟩ (by have := HSZ.out; show g < _; omega) (Ne.symm hvg)).trans hfn
    refine hK3 _ _ ⟨hx7, ?_⟩
    refine wpAnyH_cast (f' := 3) (x' := #[true, true, true, true, true, true, true, true, false, false, false]) (a' := ⟨#[.pointer (some ⟨g, 0, none⟩), f 1, f 2, f 3, f 4, f 5, f 6, f 7, f 8, f 9, .pointer (some ⟨P, 0, none⟩), f 11, f 12, f 13, f 14, f 15, f 16, f 17, f 18, f 19, f 20, f 21, f 22, f 23, f 24, f 25, f 26, f 27, f 28, f 29, f 30, f 31, f 32, f 33, f 34, f 35, f 36, f 37, f 38, f 39, f 40, f 41, f 42, f 43, f 44, f 45, f 46, f 47, f 48, f 49, f 50, f 51, f 52, f 53, f 54, f 55, f 56, f 57, f 58, f 59, f 60, f 61, f 62, f 63, f 64, f 65, f 66, f 67, f 68, f 69, f 70, f 71, f 72, f 73, f 74, f 75, f 76, f 77, f 78, f 79, f 80, f 81, f 82, f 83, f 84, f 85, f 86, f 87, f 88, f 89, f 90, f 91, f 92, f 93, f 94, f 95, f 96, f 97, f 98, f 99, f 100, f 101, f 102, f 103, f 104, f 105, f 106, f 107, f 108, f 109, f 110, f 111, f 112, f 113, f 114, f 115, f 116, f 117, f 118, .pointer (some ⟨g, 0, none⟩), .pointer (some ⟨g, 0, none⟩), .pointer (some ⟨g, 0, none⟩), .pointer (some ⟨g, 17, none⟩), v, .agg #[.int .i32 a, .int .i32 b], .slice (some ⟨kb, 0, none⟩) 1 1, .slice (some ⟨gg, 0, none⟩) (n + 1) cap, f 127, f 128, f 129, f 130, f 131, f 132, f 133, f 134, f 135, f 136, f 137, f 138, f 139, f 140, f 141, f 142, f 143, f 144, f 145, f 146, f 147, f 148, f 149, f 150, f 151, f 152, f 153, f 154, f 155, f 156, f 157, f 158, f 159, f 160, f 161, f 162, f 163, f 164, f 165, f 166, f 167, f 168, f 169, f 170, f 171, f 172, f 173, f 174, f 175, f 176, f 177, f 178, f 179, f 180, f 181, f 182, f 183, f 184, f 185], []⟩) (by kernel_rfl) (by kernel_rfl) (by kernel_rfl) ?_
    refine wpAnyH_take (i := 8) (oi := _) (v := .pointer (some ⟨g, 0, none⟩)) rfl (by kernel_rfl) (by kernel_rfl) (by kernel_rfl) (hQx _ _) (.inl ⟨by rfl, fun w' s1 => ?_⟩) hx7 ?_
    · go_simp
    refine wpAnyH_take (i := 9) (oi := _) (v := .pointer (some ⟨g, 17, none⟩)) rfl (by kernel_rfl) (by kernel_rfl) (by kernel_rfl) (hQx _ _) (.inl ⟨by rfl, fun w' s1 => ?_⟩) hx7 ?_
    · go_simp
    refine wpAnyH_cast (f' := 1) (x' := #[true, true, true, true, true, true, true, true, true, true, false]) (a' := ⟨#[.pointer (some ⟨g, 0, none⟩), f 1, f 2, f 3, f 4, f 5, f 6, f 7, f 8, f 9, .pointer (some ⟨P, 0, none⟩), f 11, f 12, f 13, f 14, f 15, f 16, f 17, f 18, f 19, f 20, f 21, f 22, f 23, f 24, f 25, f 26, f 27, f 28, f 29, f 30, f 31, f 32, f 33, f 34, f 35, f 36, f 37, f 38, f 39, f 40, f 41, f 42, f 43, f 44, f 45, f 46, f 47, f 48, f 49, f 50, f 51, f 52, f 53, f 54, f 55, f 56, f 57, f 58, f 59, f 60, f 61, f 62, f 63, f 64, f 65, f 66, f 67, f 68, f 69, f 70, f 71, f 72, f 73, f 74, f 75, f 76, f 77, f 78, f 79, f 80, f 81, f 82, f 83, f 84, f 85, f 86, f 87, f 88, f 89, f 90, f 91, f 92, f 93, f 94, f 95, f 96, f 97, f 98, f 99, f 100, f 101, f 102, f 103, f 104, f 105, f 106, f 107, f 108, f 109, f 110, f 111, f 112, f 113, f 114, f 115, f 116, f 117, f 118, .pointer (some ⟨g, 0, none⟩), .pointer (some ⟨g, 0, none⟩), .pointer (some ⟨g, 0, none⟩), .pointer (some ⟨g, 17, none⟩), v, .agg #[.int .i32 a, .int .i32 b], .slice (some ⟨kb, 0, none⟩) 1 1, .slice (some ⟨gg, 0, none⟩) (n + 1) cap, .pointer (some ⟨g, 0, none⟩), .pointer (some ⟨g, 17, none⟩), f 129, f 130, f 131, f 132, f 133, f 134, f 135, f 136, f 137, f 138, f 139, f 140, f 141, f 142, f 143, f 144, f 145, f 146, f 147, f 148, f 149, f 150, f 151, f 152, f 153, f 154, f 155, f 156, f 157, f 158, f 159, f 160, f 161, f 162, f 163, f 164, f 165, f 166, f 167, f 168, f 169, f 170, f 171, f 172, f 173, f 174, f 175, f 176, f 177, f 178, f 179, f 180, f 181, f 182, f 183, f 184, f 185], []⟩) (by kernel_rfl) (by kernel_rfl) (by kernel_rfl) ?_
    refine wpAnyH_all (rs := [10]) (by kernel_rfl) (by decide) ?_
    intro i hi
    obtain rfl := List.mem_singleton.1 hi
    refine wpOp_step (o := _) rfl (fun K4 hK4 => ?_)
    rw [if_pos (by rfl)]
    go_simp
    refine hK4 _ _ ⟨((Keep.refl (fun j => j = g) w7).setCell (fun _ => rfl) _).blk hx7 hgP, ?_⟩
    refine wpAnyH_done (by kernel_rfl) ?_ _
    exact ⟨rfl, gg, cap, w7, wn, fun j => if j = 119 then .pointer (some ⟨g, 0, none⟩) else if j = 120 then .pointer (some ⟨g, 0, none⟩) else if j = 121 then .pointer (some ⟨g, 0, none⟩) else if j = 122 then .pointer (some ⟨g, 17, none⟩) else if j = 123 then v else if j = 124 then .agg #[.int .i32 a, .int .i32 b] else if j = 125 then .slice (some ⟨kb, 0, none⟩) 1 1 else if j = 126 then .slice (some ⟨gg, 0, none⟩) (n + 1) cap else if j = 127 then .pointer (some ⟨g, 0, none⟩) else .pointer (some ⟨g, 17, none⟩), rfl, hown7, hKn, hgrow, hat.imp id (fun e => by omega), rfl⟩
  · obtain rfl := List.mem_singleton.1 hi
    refine wpOp_step (o := _) rfl (fun K2 hK2 => ?_)
    rw [if_pos (by rfl)]
    go_simp
    have hxn : (wd.alloc (.cells #[.int .i32 a, .int .i32 b] 50)).heap[P]? = some (.cells #[.int .i32 a, .int .i32 b] 50 (0, 0)) := alloc_old _ hPd
    have hnb : (wd.alloc (.cells #[.int .i32 a, .int .i32 b] 50)).heap[wd.heap.size]? = some (.cells #[.int .i32 a, .int .i32 b] 50 (0, 0)) := heap_alloc_new _ _
    have hKn : KeepA w (wd.alloc (.cells #[.int .i32 a, .int .i32 b] 50)) := hKd.alloc _
    have hon : (wd.alloc (.cells #[.int .i32 a, .int .i32 b] 50)).ownsRow B 50 2 v n xs := hownd.alloc _
    have hcn : (wd.alloc (.cells #[.int .i32 a, .int .i32 b] 50)).cell? ⟨g, 17, none⟩ = some v := (World.cell?_alloc_past _ _ _ (by have := HSZ.out; show g < _; omega)).trans hcd
    have hfn : (wd.alloc (.cells #[.int .i32 a, .int .i32 b] 50)).frozen? ⟨g, 17, none⟩ = false := (World.frozen?_alloc_past _ _ _ (by have := HSZ.out; show g < _; omega)).trans hfd
    have hzn : (wd.alloc (.cells #[.int .i32 a, .int .i32 b] 50)).heap.size = w.heap.size + 1 := by simp [HSZ.out]
    obtain ⟨wn, hwn⟩ : ∃ y, wd.alloc (.cells #[.int .i32 a, .int .i32 b] 50) = y := ⟨_, rfl⟩
    rw [hwn] at hxn hnb hKn hon hcn hfn hzn ⊢
    obtain ⟨kb, hkb⟩ : ∃ y, wd.heap.size = y := ⟨_, rfl⟩
    rw [hkb] at hnb ⊢
    refine hK2 _ _ ⟨hxn, ?_⟩
    refine wpAnyH_cast (f' := 5) (x' := #[true, true, true, true, false, true, true, false, false, false, false]) (a' := ⟨#[.pointer (some ⟨g, 0, none⟩), f 1, f 2, f 3, f 4, f 5, f 6, f 7, f 8, f 9, .pointer (some ⟨P, 0, none⟩), f 11, f 12, f 13, f 14, f 15, f 16, f 17, f 18, f 19, f 20, f 21, f 22, f 23, f 24, f 25, f 26, f 27, f 28, f 29, f 30, f 31, f 32, f 33, f 34, f 35, f 36, f 37, f 38, f 39, f 40, f 41, f 42, f 43, f 44, f 45, f 46, f 47, f 48, f 49, f 50, f 51, f 52, f 53, f 54, f 55, f 56, f 57, f 58, f 59, f 60, f 61, f 62, f 63, f 64, f 65, f 66, f 67, f 68, f 69, f 70, f 71, f 72, f 73, f 74, f 75, f 76, f 77, f 78, f 79, f 80, f 81, f 82, f 83, f 84, f 85, f 86, f 87, f 88, f 89, f 90, f 91, f 92, f 93, f 94, f 95, f 96, f 97, f 98, f 99, f 100, f 101, f 102, f 103, f 104, f 105, f 106, f 107, f 108, f 109, f 110, f 111, f 112, f 113, f 114, f 115, f 116, f 117, f 118, .pointer (some ⟨g, 0, none⟩), .pointer (some ⟨g, 0, none⟩), .pointer (some ⟨g, 0, none⟩), .pointer (some ⟨g, 17, none⟩), f 123, .agg #[.int .i32 a, .int .i32 b], .slice (some ⟨kb, 0, none⟩) 1 1, f 126, f 127, f 128, f 129, f 130, f 131, f 132, f 133, f 134, f 135, f 136, f 137, f 138, f 139, f 140, f 141, f 142, f 143, f 144, f 145, f 146, f 147, f 148, f 149, f 150, f 151, f 152, f 153, f 154, f 155, f 156, f 157, f 158, f 159, f 160, f 161, f 162, f 163, f 164, f 165, f 166, f 167, f 168, f 169, f 170, f 171, f 172, f 173, f 174, f 175, f 176, f 177, f 178, f 179, f 180, f 181, f 182, f 183, f 184, f 185], []⟩) (by kernel_rfl) (by kernel_rfl) (by kernel_rfl) ?_
    refine wpAnyH_all (rs := [4]) (by kernel_rfl) (by decide) ?_
    intro i hi
    obtain rfl := List.mem_singleton.1 hi
    refine wpOp_step (o := _) rfl (fun K1 hK1 => ?_)
    rw [if_pos (by rfl)]
    go_simp
    refine hK1 _ _ ⟨hxn, ?_⟩
    refine wpAnyH_cast (f' := 4) (x' := #[true, true, true, true, true, true, true, false, false, false, false]) (a' := ⟨#[.pointer (some ⟨g, 0, none⟩), f 1, f 2, f 3, f 4, f 5, f 6, f 7, f 8, f 9, .pointer (some ⟨P, 0, none⟩), f 11, f 12, f 13, f 14, f 15, f 16, f 17, f 18, f 19, f 20, f 21, f 22, f 23, f 24, f 25, f 26, f 27, f 28, f 29, f 30, f 31, f 32, f 33, f 34, f 35, f 36, f 37, f 38, f 39, f 40, f 41, f 42, f 43, f 44, f 45, f 46, f 47, f 48, f 49, f 50, f 51, f 52, f 53, f 54, f 55, f 56, f 57, f 58, f 59, f 60, f 61, f 62, f 63, f 64, f 65, f 66, f 67, f 68, f 69, f 70, f 71, f 72, f 73, f 74, f 75, f 76, f 77, f 78, f 79, f 80, f 81, f 82, f 83, f 84, f 85, f 86, f 87, f 88, f 89, f 90, f 91, f 92, f 93, f 94, f 95, f 96, f 97, f 98, f 99, f 100, f 101, f 102, f 103, f 104, f 105, f 106, f 107, f 108, f 109, f 110, f 111, f 112, f 113, f 114, f 115, f 116, f 117, f 118, .pointer (some ⟨g, 0, none⟩), .pointer (some ⟨g, 0, none⟩), .pointer (some ⟨g, 0, none⟩), .pointer (some ⟨g, 17, none⟩), v, .agg #[.int .i32 a, .int .i32 b], .slice (some ⟨kb, 0, none⟩) 1 1, f 126, f 127, f 128, f 129, f 130, f 131, f 132, f 133, f 134, f 135, f 136, f 137, f 138, f 139, f 140, f 141, f 142, f 143, f 144, f 145, f 146, f 147, f 148, f 149, f 150, f 151, f 152, f 153, f 154, f 155, f 156, f 157, f 158, f 159, f 160, f 161, f 162, f 163, f 164, f 165, f 166, f 167, f 168, f 169, f 170, f 171, f 172, f 173, f 174, f 175, f 176, f 177, f 178, f 179, f 180, f 181, f 182, f 183, f 184, f 185], []⟩) (by kernel_rfl) (by kernel_rfl) (by kernel_rfl) ?_
    refine wpAnyH_all (rs := [7]) (by kernel_rfl) (by decide) ?_
    intro i hi
    obtain rfl := List.mem_singleton.1 hi
    refine wpOp_step (o := _) rfl (fun K3 hK3 => ?_)
    rw [if_pos (by rfl)]
    refine wp_append_lies _ _ _ 45 rfl B 50 i0 _ 2 8 Tryz.underlying45 hi0 hz0 hz1 hz2 rfl (by decide) v n xs rfl hon ⟨kb, 0, none⟩ 1 1 [.int .i32 a, .int .i32 b] rfl rfl (World.news_of_block (cs := #[.int .i32 a, .int .i32 b]) (t := 50) (fr := (0, 0)) hnb) (by simp [Value.oneCell']) (by decide) (by unfold maxLen; omega) (by omega) (by omega) (w.heap.size + 1) hzn ?_
    intro gg cap w7 hown7 hgrow hat hlt7
    have hx7 := (Keep.of_grown hgrow (fun j => v.ownBlock = some j) (fun j e => e)).blk hxn hvP
    have hc7 : w7.cell? ⟨g, 17, none⟩ = some v := (hgrow.cell_far ⟨g, 17, none⟩ (by have := HSZ.out; show g < _; omega) (Ne.symm hvg)).trans hcn
    have hf7 : w7.frozen? ⟨g, 17, none⟩ = false := (hgrow.frozen_far ⟨g, 17, none⟩ (by have := HSZ.out; show g < _; omega) (Ne.symm hvg)).trans hfn
    refine hK3 _ _ ⟨hx7, ?_⟩
    refine wpAnyH_cast (f' := 3) (x' := #[true, true, true, true, true, true, true, true, false, false, false]) (a' := ⟨#[.pointer (some ⟨g, 0, none⟩), f 1, f 2, f 3, f 4, f 5, f 6, f 7, f 8, f 9, .pointer (some ⟨P, 0, none⟩), f 11, f 12, f 13, f 14, f 15, f 16, f 17, f 18, f 19, f 20, f 21, f 22, f 23, f 24, f 25, f 26, f 27, f 28, f 29, f 30, f 31, f 32, f 33, f 34, f 35, f 36, f 37, f 38, f 39, f 40, f 41, f 42, f 43, f 44, f 45, f 46, f 47, f 48, f 49, f 50, f 51, f 52, f 53, f 54, f 55, f 56, f 57, f 58, f 59, f 60, f 61, f 62, f 63, f 64, f 65, f 66, f 67, f 68, f 69, f 70, f 71, f 72, f 73, f 74, f 75, f 76, f 77, f 78, f 79, f 80, f 81, f 82, f 83, f 84, f 85, f 86, f 87, f 88, f 89, f 90, f 91, f 92, f 93, f 94, f 95, f 96, f 97, f 98, f 99, f 100, f 101, f 102, f 103, f 104, f 105, f 106, f 107, f 108, f 109, f 110, f 111, f 112, f 113, f 114, f 115, f 116, f 117, f 118, .pointer (some ⟨g, 0, none⟩), .pointer (some ⟨g, 0, none⟩), .pointer (some ⟨g, 0, none⟩), .pointer (some ⟨g, 17, none⟩), v, .agg #[.int .i32 a, .int .i32 b], .slice (some ⟨kb, 0, none⟩) 1 1, .slice (some ⟨gg, 0, none⟩) (n + 1) cap, f 127, f 128, f 129, f 130, f 131, f 132, f 133, f 134, f 135, f 136, f 137, f 138, f 139, f 140, f 141, f 142, f 143, f 144, f 145, f 146, f 147, f 148, f 149, f 150, f 151, f 152, f 153, f 154, f 155, f 156, f 157, f 158, f 159, f 160, f 161, f 162, f 163, f 164, f 165, f 166, f 167, f 168, f 169, f 170, f 171, f 172, f 173, f 174, f 175, f 176, f 177, f 178, f 179, f 180, f 181, f 182, f 183, f 184, f 185], []⟩) (by kernel_rfl) (by kernel_rfl) (by kernel_rfl) ?_
    refine wpAnyH_take (i := 8) (oi := _) (v := .pointer (some ⟨g, 0, none⟩)) rfl (by kernel_rfl) (by kernel_rfl) (by kernel_rfl) (hQx _ _) (.inl ⟨by rfl, fun w' s1 => ?_⟩) hx7 ?_
    · go_simp
    refine wpAnyH_take (i := 9) (oi := _) (v := .pointer (some ⟨g, 17, none⟩)) rfl (by kernel_rfl) (by kernel_rfl) (by kernel_rfl) (hQx _ _) (.inl ⟨by rfl, fun w' s1 => ?_⟩) hx7 ?_
    · go_simp
    refine wpAnyH_cast (f' := 1) (x' := #[true, true, true, true, true, true, true, true, true, true, false]) (a' := ⟨#[.pointer (some ⟨g, 0, none⟩), f 1, f 2, f 3, f 4, f 5, f 6, f 7, f 8, f 9, .pointer (some ⟨P, 0, none⟩), f 11, f 12, f 13, f 14, f 15, f 16, f 17, f 18, f 19, f 20, f 21, f 22, f 23, f 24, f 25, f 26, f 27, f 28, f 29, f 30, f 31, f 32, f 33, f 34, f 35, f 36, f 37, f 38, f 39, f 40, f 41, f 42, f 43, f 44, f 45, f 46, f 47, f 48, f 49, f 50, f 51, f 52, f 53, f 54, f 55, f 56, f 57, f 58, f 59, f 60, f 61, f 62, f 63, f 64, f 65, f 66, f 67, f 68, f 69, f 70, f 71, f 72, f 73, f 74, f 75, f 76, f 77, f 78, f 79, f 80, f 81, f 82, f 83, f 84, f 85, f 86, f 87, f 88, f 89, f 90, f 91, f 92, f 93, f 94, f 95, f 96, f 97, f 98, f 99, f 100, f 101, f 102, f 103, f 104, f 105, f 106, f 107, f 108, f 109, f 110, f 111, f 112, f 113, f 114, f 115, f 116, f 117, f 118, .pointer (some ⟨g, 0, none⟩), .pointer (some ⟨g, 0, none⟩), .pointer (some ⟨g, 0, none⟩), .pointer (some ⟨g, 17, none⟩), v, .agg #[.int .i32 a, .int .i32 b], .slice (some ⟨kb, 0, none⟩) 1 1, .slice (some ⟨gg, 0, none⟩) (n + 1) cap, .pointer (some ⟨g, 0, none⟩), .pointer (some ⟨g, 17, none⟩), f 129, f 130, f 131, f 132, f 133, f 134, f 135, f 136, f 137, f 138, f 139, f 140, f 141, f 142, f 143, f 144, f 145, f 146, f 147, f 148, f 149, f 150, f 151, f 152, f 153, f 154, f 155, f 156, f 157, f 158, f 159, f 160, f 161, f 162, f 163, f 164, f 165, f 166, f 167, f 168, f 169, f 170, f 171, f 172, f 173, f 174, f 175, f 176, f 177, f 178, f 179, f 180, f 181, f 182, f 183, f 184, f 185], []⟩) (by kernel_rfl) (by kernel_rfl) (by kernel_rfl) ?_
    refine wpAnyH_all (rs := [10]) (by kernel_rfl) (by decide) ?_
    intro i hi
    obtain rfl := List.mem_singleton.1 hi
    refine wpOp_step (o := _) rfl (fun K4 hK4 => ?_)
    rw [if_pos (by rfl)]
    go_simp
    refine hK4 _ _ ⟨((Keep.refl (fun j => j = g) w7).setCell (fun _ => rfl) _).blk hx7 hgP, ?_⟩
    refine wpAnyH_done (by kernel_rfl) ?_ _
    exact ⟨rfl, gg, cap, w7, wn, fun j => if j = 119 then .pointer (some ⟨g, 0, none⟩) else if j = 120 then .pointer (some ⟨g, 0, none⟩) else if j = 121 then .pointer (some ⟨g, 0, none⟩) else if j = 122 then .pointer (some ⟨g, 17, none⟩) else if j = 123 then v else if j = 124 then .agg #[.int .i32 a, .int .i32 b] else if j = 125 then .slice (some ⟨kb, 0, none⟩) 1 1 else if j = 126 then .slice (some ⟨gg, 0, none⟩) (n + 1) cap else if j = 127 then .pointer (some ⟨g, 0, none⟩) else .pointer (some ⟨g, 17, none⟩), rfl, hown7, hKn, hgrow, hat.imp id (fun e => by omega), rfl⟩
theorem r14R26_at {w : World} {g P B n : Nat} {v : Value} {xs : List Value} {a b : Int} (hP : w.heap[P]? = some (.cells #[.int .i32 a, .int .i32 b] 50 (0, 0))) (hc : w.cell? ⟨g, 17, none⟩ = some v) (hf : w.frozen? ⟨g, 17, none⟩ = false) (hown : w.ownsRow B 50 2 v n xs) (hn : n ≤ 1099511627776) (hB : B ≤ w.heap.size) (hg : g < w.heap.size) (hgP : P ≠ g) (hvg : v.ownBlock ≠ some g) (hvP : v.ownBlock ≠ some P) (t : Array Value) (ht : t.size = 186) (h0 : t.toList.getD 0 undef = .pointer (some ⟨g, 0, none⟩)) (h10 : t.toList.getD 10 undef = .pointer (some ⟨P, 0, none⟩)) :
    Code.wp Tryz.prog r14R26 (r14R26Q w g P B n v xs a b (fun j => t.toList.getD j undef)) ⟨t, []⟩ w := by
  obtain ⟨tl⟩ := t
  have e := t12_list tl undef 0
  rw [show tl.length = 186 from ht, r14_letters (fun i => tl.getD i undef)] at e
  have e2 := congrArg List.toArray e
  simp only at h0 h10 e2
  rw [h0, h10] at e2
  refine Eq.mp (congrArg (fun z => Code.wp Tryz.prog r14R26 (r14R26Q w g P B n v xs a b (fun j => tl.getD j undef)) ⟨z, []⟩ w) e2.symm) ?_
  exact r14R26_wp hP hc hf hown hn hB hg hgP hvg hvP (fun j => tl.getD j undef)
noncomputable def r14R30 : Code := (((Tryz.f75.body.map regions).getD []).find? (fun c => match c with | .region i _ _ => i == 30 | _ => false)).getD .skip
/-- What it leaves: one more in the row. -/
def r14R30Q (w : World) (g P B n : Nat) (v : Value) (xs : List Value) (a _b : Int) (X2 : ByteArray) (f : Nat → Value) (e : Exit) (x : Act) (w' : World) : Prop :=
  e = .normal ∧ ∃ (gg cap : Nat) (w7 wq : World) (h : Nat → Value), x = ⟨#[.pointer (some ⟨g, 0, none⟩), f 1, f 2, .pointer (some ⟨P, 0, none⟩), f 4, f 5, f 6, f 7, f 8, f 9, f 10, .string X2, f 12, f 13, f 14, f 15, f 16, f 17, f 18, f 19, f 20, f 21, f 22, f 23, f 24, f 25, f 26, f 27, f 28, f 29, f 30, f 31, f 32, f 33, f 34, f 35, f 36, f 37, f 38, f 39, f 40, f 41, f 42, f 43, f 44, f 45, f 46, f 47, f 48, f 49, f 50, f 51, f 52, f 53, f 54, f 55, f 56, f 57, f 58, f 59, f 60, f 61, f 62, f 63, f 64, f 65, f 66, f 67, f 68, f 69, f 70, f 71, f 72, f 73, f 74, f 75, f 76, f 77, f 78, f 79, f 80, f 81, f 82, f 83, f 84, f 85, f 86, f 87, f 88, f 89, f 90, f 91, f 92, f 93, f 94, f 95, f 96, f 97, f 98, f 99, f 100, f 101, f 102, f 103, f 104, f 105, f 106, f 107, f 108, f 109, f 110, f 111, f 112, f 113, f 114, f 115, f 116, f 117, f 118, f 119, f 120, f 121, f 122, f 123, f 124, f 125, f 126, f 127, f 128, f 129, f 130, f 131, f 132, f 133, f 134, f 135, f 136, f 137, f 138, f 139, f 140, f 141, f 142, f 143, f 144, f 145, f 146, f 147, f 148, h 149, h 150, h 151, h 152, h 153, h 154, h 155, h 156, h 157, h 158, h 159, h 160, h 161, f 162, f 163, f 164, f 165, f 166, f 167, f 168, f 169, f 170, f 171, f 172, f 173, f 174, f 175, f 176, f 177, f 178, f 179, f 180, f 181, f 182, f 183, f 184, f 185], []⟩ ∧ w7.ownsRow B 122 3 (.slice (some ⟨gg, 0, none⟩) (n + 1) cap) (n + 1) (xs ++ [.string X2, .int .i32 a, .int .u32 0]) ∧ KeepA w wq ∧ wq.grownBy w7 v.ownBlock ∧ (v.ownBlock = some gg ∨ wq.heap.size ≤ gg) ∧ w' = w7.setCell ⟨g, 18, none⟩ (.slice (some ⟨gg, 0, none⟩) (n + 1) cap)
set_option maxRecDepth 100000 in
set_option maxHeartbeats 8000000 in
theorem r14R30_wp {w : World} {g P B n : Nat} {v : Value} {xs : List Value} {a b : Int} {X2 : ByteArray} (hP : w.heap[P]? = some (.cells #[.int .i32 a, .int .i32 b] 50 (0, 0))) (hc : w.cell? ⟨g, 18, none⟩ = some v) (hf : w.frozen? ⟨g, 18, none⟩ = false) (hown : w.ownsRow B 122 3 v n xs) (hn : n ≤ 1099511627776) (hB : B ≤ w.heap.size) (hg : g < w.heap.size) (hgP : P ≠ g) (hvg : v.ownBlock ≠ some g) (hvP : v.ownBlock ≠ some P) (f : Nat → Value) :
    Code.wp Tryz.prog r14R30 (r14R30Q w g P B n v xs a b X2 f) ⟨#[.pointer (some ⟨g, 0, none⟩), f 1, f 2, .pointer (some ⟨P, 0, none⟩), f 4, f 5, f 6, f 7, f 8, f 9, f 10, .string X2, f 12, f 13, f 14, f 15, f 16, f 17, f 18, f 19, f 20, f 21, f 22, f 23, f 24, f 25, f 26, f 27, f 28, f 29, f 30, f 31, f 32, f 33, f 34, f 35, f 36, f 37, f 38, f 39, f 40, f 41, f 42, f 43, f 44, f 45, f 46, f 47, f 48, f 49, f 50, f 51, f 52, f 53, f 54, f 55, f 56, f 57, f 58, f 59, f 60, f 61, f 62, f 63, f 64, f 65, f 66, f 67, f 68, f 69, f 70, f 71, f 72, f 73, f 74, f 75, f 76, f 77, f 78, f 79, f 80, f 81, f 82, f 83, f 84, f 85, f 86, f 87, f 88, f 89, f 90, f 91, f 92, f 93, f 94, f 95, f 96, f 97, f 98, f 99, f 100, f 101, f 102, f 103, f 104, f 105, f 106, f 107, f 108, f 109, f 110, f 111, f 112, f 113, f 114, f 115, f 116, f 117, f 118, f 119, f 120, f 121, f 122, f 123, f 124, f 125, f 126, f 127, f 128, f 129, f 130, f 131, f 132, f 133, f 134, f 135, f 136, f 137, f 138, f 139, f 140, f 141, f 142, f 143, f 144, f 145, f 146, f 147, f 148, f 149, f 150, f 151, f 152, f 153, f 154, f 155, f 156, f 157, f 158, f 159, f 160, f 161, f 162, f 163, f 164, f 165, f 166, f 167, f 168, f 169, f 170, f 171, f 172, f 173, f 174, f 175, f 176, f 177, f 178, f 179, f 180, f 181, f 182, f 183, f 184, f 185], []⟩ w := by
  conv => arg 2; whnf
  have z : ∀ wz : World, wz.heap[P]? = some (.cells #[.int .i32 a, .int .i32 b] 50 (0, 0)) → (wz.cell? ⟨P, 0, none⟩ = some (.int .i32 a) ∧ wz.cell? ⟨P, 1, none⟩ = some (.int .i32 b)) := fun wz e => ⟨(blk_cell e 0).trans rfl, (blk_cell e 1).trans rfl⟩
  have hQx : ∀ (d : Option Nat) (u : Value) c x w', r14R30Q w g P B n v xs a b X2 f (.panic c) (Act.put x d u) w' → r14R30Q w g P B n v xs a b X2 f (.panic c) x w' := fun d u c x w h => by obtain ⟨h, _⟩ := h; cases h
  refine wp_region_drawn (fun w' => w'.heap[P]? = some (.cells #[.int .i32 a, .int .i32 b] 50 (0, 0))) (by kernel_rfl) (fun wd hw0 => ?_)
  have hKd : KeepA w wd := by rw [hw0]; exact (Keep.refl _ _).drew
  have hPd : wd.heap[P]? = some (.cells #[.int .i32 a, .int .i32 b] 50 (0, 0)) := by rw [hw0]; exact hP
  have hcd : wd.cell? ⟨g, 18, none⟩ = some v := by rw [hw0]; exact hc
  have hfd : wd.frozen? ⟨g, 18, none⟩ = false := by rw [hw0]; exact hf
  have hownd : wd.ownsRow B 122 3 v n xs := hKd.own hown (fun _ _ e => e)
  have HSZ : Hid (wd.heap.size = w.heap.size) := Lib.hid (by rw [hw0]; rfl)
  clear hw0
  obtain ⟨i0, hi0, hz0, hz1, hz2⟩ := info_parts info122
  refine wpAnyH_take (i := 0) (oi := _) (v := .pointer (some ⟨g, 0, none⟩)) rfl (by kernel_rfl) (by kernel_rfl) (by kernel_rfl) (hQx _ _) (.inl ⟨by rfl, fun w' s1 => ?_⟩) hPd ?_
  · obtain ⟨y0, y1⟩ := z _ s1
    go_simp
  refine wpAnyH_take (i := 1) (oi := _) (v := .pointer (some ⟨g, 0, none⟩)) rfl (by kernel_rfl) (by kernel_rfl) (by kernel_rfl) (hQx _ _) (.inl ⟨by rfl, fun w' s1 => ?_⟩) hPd ?_
  · obtain ⟨y0, y1⟩ := z _ s1
    go_simp
  refine wpAnyH_take (i := 2) (oi := _) (v := .pointer (some ⟨g, 0, none⟩)) rfl (by kernel_rfl) (by kernel_rfl) (by kernel_rfl) (hQx _ _) (.inl ⟨by rfl, fun w' s1 => ?_⟩) hPd ?_
  · obtain ⟨y0, y1⟩ := z _ s1
    go_simp
  refine wpAnyH_take (i := 3) (oi := _) (v := .pointer (some ⟨g, 18, none⟩)) rfl (by kernel_rfl) (by kernel_rfl) (by kernel_rfl) (hQx _ _) (.inl ⟨by rfl, fun w' s1 => ?_⟩) hPd ?_
  · obtain ⟨y0, y1⟩ := z _ s1
    go_simp
  refine wpAnyH_take (i := 5) (oi := _) (v := .pointer (some ⟨P, 0, none⟩)) rfl (by kernel_rfl) (by kernel_rfl) (by kernel_rfl) (hQx _ _) (.inl ⟨by rfl, fun w' s1 => ?_⟩) hPd ?_
  · obtain ⟨y0, y1⟩ := z _ s1
    go_simp
  refine wpAnyH_take (i := 6) (oi := _) (v := .agg #[.int .i32 a]) rfl (by kernel_rfl) (by kernel_rfl) (by kernel_rfl) (hQx _ _) (.inl ⟨by rfl, fun w' s1 => ?_⟩) hPd ?_
  · obtain ⟨y0, y1⟩ := z _ s1
    go_simp
  refine wpAnyH_take (i := 7) (oi := _) (v := .string X2) rfl (by kernel_rfl) (by kernel_rfl) (by kernel_rfl) (hQx _ _) (.inl ⟨by rfl, fun w' s1 => ?_⟩) hPd ?_
  · obtain ⟨y0, y1⟩ := z _ s1
    go_simp
  refine wpAnyH_take (i := 8) (oi := _) (v := .agg #[.string X2, .int .i32 a, .int .u32 0]) rfl (by kernel_rfl) (by kernel_rfl) (by kernel_rfl) (hQx _ _) (.inl ⟨by rfl, fun w' s1 => ?_⟩) hPd ?_
  · obtain ⟨y0, y1⟩ := z _ s1
    kernel_rfl
  refine wpAnyH_cast (f' := 6) (x' := #[true, true, true, true, false, true, true, true, true, false, false, false, false, false]) (a' := ⟨#[.pointer (some ⟨g, 0, none⟩), f 1, f 2, .pointer (some ⟨P, 0, none⟩), f 4, f 5, f 6, f 7, f 8, f 9, f 10, .string X2, f 12, f 13, f 14, f 15, f 16, f 17, f 18, f 19, f 20, f 21, f 22, f 23, f 24, f 25, f 26, f 27, f 28, f 29, f 30, f 31, f 32, f 33, f 34, f 35, f 36, f 37, f 38, f 39, f 40, f 41, f 42, f 43, f 44, f 45, f 46, f 47, f 48, f 49, f 50, f 51, f 52, f 53, f 54, f 55, f 56, f 57, f 58, f 59, f 60, f 61, f 62, f 63, f 64, f 65, f 66, f 67, f 68, f 69, f 70, f 71, f 72, f 73, f 74, f 75, f 76, f 77, f 78, f 79, f 80, f 81, f 82, f 83, f 84, f 85, f 86, f 87, f 88, f 89, f 90, f 91, f 92, f 93, f 94, f 95, f 96, f 97, f 98, f 99, f 100, f 101, f 102, f 103, f 104, f 105, f 106, f 107, f 108, f 109, f 110, f 111, f 112, f 113, f 114, f 115, f 116, f 117, f 118, f 119, f 120, f 121, f 122, f 123, f 124, f 125, f 126, f 127, f 128, f 129, f 130, f 131, f 132, f 133, f 134, f 135, f 136, f 137, f 138, f 139, f 140, f 141, f 142, f 143, f 144, f 145, f 146, f 147, f 148, .pointer (some ⟨g, 0, none⟩), .pointer (some ⟨g, 0, none⟩), .pointer (some ⟨g, 0, none⟩), .pointer (some ⟨g, 18, none⟩), f 153, .pointer (some ⟨P, 0, none⟩), .agg #[.int .i32 a], .string X2, .agg #[.string X2, .int .i32 a, .int .u32 0], f 158, f 159, f 160, f 161, f 162, f 163, f 164, f 165, f 166, f 167, f 168, f 169, f 170, f 171, f 172, f 173, f 174, f 175, f 176, f 177, f 178, f 179, f 180, f 181, f 182, f 183, f 184, f 185], []⟩) (by kernel_rfl) (by kernel_rfl) (by kernel_rfl) ?_
  refine wpAnyH_all (rs := [4, 9]) (by kernel_rfl) (by decide) ?_
  intro i hi
  rcases List.mem_cons.1 hi with rfl | hi
  · clear hi
    refine wpOp_step (o := _) rfl (fun K1 hK1 => ?_)
    rw [if_pos (by rfl)]
    go_simp
    refine hK1 _ _ ⟨hPd, ?_⟩
    refine wpAnyH_cast (f' := 5) (x' := #[true, true, true, true, true, true, true, true, true, false, false, false, false, false]) (a' := ⟨#[.pointer (some ⟨g, 0, none⟩), f 1, f 2, .pointer (some ⟨P, 0, none⟩), f 4, f 5, f 6, f 7, f 8, f 9, f 10, .string X2, f 12, f 13, f 14, f 15, f 16, f 17, f 18, f 19, f 20, f 21, f 22, f 23, f 24, f 25, f 26, f 27, f 28, f 29, f 30, f 31, f 32, f 33, f 34, f 35, f 36, f 37, f 38, f 39, f 40, f 41, f 42, f 43, f 44, f 45, f 46, f 47, f 48, f 49, f 50, f 51, f 52, f 53, f 54, f 55, f 56, f 57, f 58, f 59, f 60, f 61, f 62, f 63, f 64, f 65, f 66, f 67, f 68, f 69, f 70, f 71, f 72, f 73, f 74, f 75, f 76, f 77, f 78, f 79, f 80, f 81, f 82, f 83, f 84, f 85, f 86, f 87, f 88, f 89, f 90, f 91, f 92, f 93, f 94, f 95, f 96, f 97, f 98, f 99, f 100, f 101, f 102, f 103, f 104, f 105, f 106, f 107, f 108, f 109, f 110, f 111, f 112, f 113, f 114, f 115, f 116, f 117, f 118, f 119, f 120, f 121, f 122, f 123, f 124, f 125, f 126, f 127, f 128, f 129, f 130, f 131, f 132, f 133, f 134, f 135, f 136, f 137, f 138, f 139, f 140, f 141, f 142, f 143, f 144, f 145, f 146, f 147, f 148, .pointer (some ⟨g, 0, none⟩), .pointer (some ⟨g, 0, none⟩), .pointer (some ⟨g, 0, none⟩), .pointer (some ⟨g, 18, none⟩), v, .pointer (some ⟨P, 0, none⟩), .agg #[.int .i32 a], .string X2, .agg #[.string X2, .int .i32 a, .int .u32 0], f 158, f 159, f 160, f 161, f 162, f 163, f 164, f 165, f 166, f 167, f 168, f 169, f 170, f 171, f 172, f 173, f 174, f 175, f 176, f 177, f 178, f 179, f 180, f 181, f 182, f 183, f 184, f 185], []⟩) (by kernel_rfl) (by kernel_rfl) (by kernel_rfl) ?_
    refine wpAnyH_all (rs := [9]) (by kernel_rfl) (by decide) ?_
    intro i hi
    obtain rfl := List.mem_singleton.1 hi
    refine wpOp_step (o := _) rfl (fun K2 hK2 => ?_)
    rw [if_pos (by rfl)]
    go_simp
    have hxn : (wd.alloc (.cells #[.string X2, .int .i32 a, .int .u32 0] 122)).heap[P]? = some (.cells #[.int .i32 a, .int .i32 b] 50 (0, 0)) := alloc_old _ hPd
    have hnb : (wd.alloc (.cells #[.string X2, .int .i32 a, .int .u32 0] 122)).heap[wd.heap.size]? = some (.cells #[.string X2, .int .i32 a, .int .u32 0] 122 (0, 0)) := heap_alloc_new _ _
    have hKn : KeepA w (wd.alloc (.cells #[.string X2, .int .i32 a, .int .u32 0] 122)) := hKd.alloc _
    have hon : (wd.alloc (.cells #[.string X2, .int .i32 a, .int .u32 0] 122)).ownsRow B 122 3 v n xs := hownd.alloc _
    have hcn : (wd.alloc (.cells #[.string X2, .int .i32 a, .int .u32 0] 122)).cell? ⟨g, 18, none⟩ = some v := (World.cell?_alloc_past _ _ _ (by have := HSZ.out; show g < _; omega)).trans hcd
    have hfn : (wd.alloc (.cells #[.string X2, .int .i32 a, .int .u32 0] 122)).frozen? ⟨g, 18, none⟩ = false := (World.frozen?_alloc_past _ _ _ (by have := HSZ.out; show g < _; omega)).trans hfd
    have hzn : (wd.alloc (.cells #[.string X2, .int .i32 a, .int .u32 0] 122)).heap.size = w.heap.size + 1 := by simp [HSZ.out]
    obtain ⟨wn, hwn⟩ : ∃ y, wd.alloc (.cells #[.string X2, .int .i32 a, .int .u32 0] 122) = y := ⟨_, rfl⟩
    rw [hwn] at hxn hnb hKn hon hcn hfn hzn ⊢
    obtain ⟨kb, hkb⟩ : ∃ y, wd.heap.size = y := ⟨_, rfl⟩
    rw [hkb] at hnb ⊢
    refine hK2 _ _ ⟨hxn, ?_⟩
    refine wpAnyH_cast (f' := 4) (x' := #[true, true, true, true, true, true, true, true, true, true, false, false, false, false]) (a' := ⟨#[.pointer (some ⟨g, 0, none⟩), f 1, f 2, .pointer (some ⟨P, 0, none⟩), f 4, f 5, f 6, f 7, f 8, f 9, f 10, .string X2, f 12, f 13, f 14, f 15, f 16, f 17, f 18, f 19, f 20, f 21, f 22, f 23, f 24, f 25, f 26, f 27, f 28, f 29, f 30, f 31, f 32, f 33, f 34, f 35, f 36, f 37, f 38, f 39, f 40, f 41, f 42, f 43, f 44, f 45, f 46, f 47, f 48, f 49, f 50, f 51, f 52, f 53, f 54, f 55, f 56, f 57, f 58, f 59, f 60, f 61, f 62, f 63, f 64, f 65, f 66, f 67, f 68, f 69, f 70, f 71, f 72, f 73, f 74, f 75, f 76, f 77, f 78, f 79, f 80, f 81, f 82, f 83, f 84, f 85, f 86, f 87, f 88, f 89, f 90, f 91, f 92, f 93, f 94, f 95, f 96, f 97, f 98, f 99, f 100, f 101, f 102, f 103, f 104, f 105, f 106, f 107, f 108, f 109, f 110, f 111, f 112, f 113, f 114, f 115, f 116, f 117, f 118, f 119, f 120, f 121, f 122, f 123, f 124, f 125, f 126, f 127, f 128, f 129, f 130, f 131, f 132, f 133, f 134, f 135, f 136, f 137, f 138, f 139, f 140, f 141, f 142, f 143, f 144, f 145, f 146, f 147, f 148, .pointer (some ⟨g, 0, none⟩), .pointer (some ⟨g, 0, none⟩), .pointer (some ⟨g, 0, none⟩), .pointer (some ⟨g, 18, none⟩), v, .pointer (some ⟨P, 0, none⟩), .agg #[.int .i32 a], .string X2, .agg #[.string X2, .int .i32 a, .int .u32 0], .slice (some ⟨kb, 0, none⟩) 1 1, f 159, f 160, f 161, f 162, f 163, f 164, f 165, f 166, f 167, f 168, f 169, f 170, f 171, f 172, f 173, f 174, f 175, f 176, f 177, f 178, f 179, f 180, f 181, f 182, f 183, f 184, f 185], []⟩) (by kernel_rfl) (by kernel_rfl) (by kernel_rfl) ?_
    refine wpAnyH_all (rs := [10]) (by kernel_rfl) (by decide) ?_
    intro i hi
    obtain rfl := List.mem_singleton.1 hi
    refine wpOp_step (o := _) rfl (fun K3 hK3 => ?_)
    rw [if_pos (by rfl)]
    refine wp_append_lies _ _ _ 46 rfl B 122 i0 _ 3 24 Tryz.underlying46 hi0 hz0 hz1 hz2 rfl (by decide) v n xs rfl hon ⟨kb, 0, none⟩ 1 1 [.string X2, .int .i32 a, .int .u32 0] rfl rfl (World.news_of_block (cs := #[.string X2, .int .i32 a, .int .u32 0]) (t := 122) (fr := (0, 0)) hnb) (by simp [Value.oneCell']) (by decide) (by unfold maxLen; omega) (by omega) (by omega) (w.heap.size + 1) hzn ?_
    intro gg cap w7 hown7 hgrow hat hlt7
    have hx7 := (Keep.of_grown hgrow (fun j => v.ownBlock = some j) (fun j e => e)).blk hxn hvP
    have hc7 : w7.cell? ⟨g, 18, none⟩ = some v := (hgrow.cell_far ⟨g, 18, none⟩ (by have := HSZ.out; show g < _; omega) (Ne.symm hvg)).trans hcn
    have hf7 : w7.frozen? ⟨g, 18, none⟩ = false := (hgrow.frozen_far ⟨g, 18, none⟩ (by have := HSZ.out; show g < _; omega) (Ne.symm hvg)).trans hfn
    refine hK3 _ _ ⟨hx7, ?_⟩
    refine wpAnyH_cast (f' := 3) (x' := #[true, true, true, true, true, true, true, true, true, true, true, false, false, false]) (a' := ⟨#[.pointer (some ⟨g, 0, none⟩), f 1, f 2, .pointer (some ⟨P, 0, none⟩), f 4, f 5, f 6, f 7, f 8, f 9, f 10, .string X2, f 12, f 13, f 14, f 15, f 16, f 17, f 18, f 19, f 20, f 21, f 22, f 23, f 24, f 25, f 26, f 27, f 28, f 29, f 30, f 31, f 32, f 33, f 34, f 35, f 36, f 37, f 38, f 39, f 40, f 41, f 42, f 43, f 44, f 45, f 46, f 47, f 48, f 49, f 50, f 51, f 52, f 53, f 54, f 55, f 56, f 57, f 58, f 59, f 60, f 61, f 62, f 63, f 64, f 65, f 66, f 67, f 68, f 69, f 70, f 71, f 72, f 73, f 74, f 75, f 76, f 77, f 78, f 79, f 80, f 81, f 82, f 83, f 84, f 85, f 86, f 87, f 88, f 89, f 90, f 91, f 92, f 93, f 94, f 95, f 96, f 97, f 98, f 99, f 100, f 101, f 102, f 103, f 104, f 105, f 106, f 107, f 108, f 109, f 110, f 111, f 112, f 113, f 114, f 115, f 116, f 117, f 118, f 119, f 120, f 121, f 122, f 123, f 124, f 125, f 126, f 127, f 128, f 129, f 130, f 131, f 132, f 133, f 134, f 135, f 136, f 137, f 138, f 139, f 140, f 141, f 142, f 143, f 144, f 145, f 146, f 147, f 148, .pointer (some ⟨g, 0, none⟩), .pointer (some ⟨g, 0, none⟩), .pointer (some ⟨g, 0, none⟩), .pointer (some ⟨g, 18, none⟩), v, .pointer (some ⟨P, 0, none⟩), .agg #[.int .i32 a], .string X2, .agg #[.string X2, .int .i32 a, .int .u32 0], .slice (some ⟨kb, 0, none⟩) 1 1, .slice (some ⟨gg, 0, none⟩) (n + 1) cap, f 160, f 161, f 162, f 163, f 164, f 165, f 166, f 167, f 168, f 169, f 170, f 171, f 172, f 173, f 174, f 175, f 176, f 177, f 178, f 179, f 180, f 181, f 182, f 183, f 184, f 185], []⟩) (by kernel_rfl) (by kernel_rfl) (by kernel_rfl) ?_
    refine wpAnyH_take (i := 11) (oi := _) (v := .pointer (some ⟨g, 0, none⟩)) rfl (by kernel_rfl) (by kernel_rfl) (by kernel_rfl) (hQx _ _) (.inl ⟨by rfl, fun w' s1 => ?_⟩) hx7 ?_
    · go_simp
    refine wpAnyH_take (i := 12) (oi := _) (v := .pointer (some ⟨g, 18, none⟩)) rfl (by kernel_rfl) (by kernel_rfl) (by kernel_rfl) (hQx _ _) (.inl ⟨by rfl, fun w' s1 => ?_⟩) hx7 ?_
    · go_simp
    refine wpAnyH_cast (f' := 1) (x' := #[true, true, true, true, true, true, true, true, true, true, true, true, true, false]) (a' := ⟨#[.pointer (some ⟨g, 0, none⟩), f 1, f 2, .pointer (some ⟨P, 0, none⟩), f 4, f 5, f 6, f 7, f 8, f 9, f 10, .string X2, f 12, f 13, f 14, f 15, f 16, f 17, f 18, f 19, f 20, f 21, f 22, f 23, f 24, f 25, f 26, f 27, f 28, f 29, f 30, f 31, f 32, f 33, f 34, f 35, f 36, f 37, f 38, f 39, f 40, f 41, f 42, f 43, f 44, f 45, f 46, f 47, f 48, f 49, f 50, f 51, f 52, f 53, f 54, f 55, f 56, f 57, f 58, f 59, f 60, f 61, f 62, f 63, f 64, f 65, f 66, f 67, f 68, f 69, f 70, f 71, f 72, f 73, f 74, f 75, f 76, f 77, f 78, f 79, f 80, f 81, f 82, f 83, f 84, f 85, f 86, f 87, f 88, f 89, f 90, f 91, f 92, f 93, f 94, f 95, f 96, f 97, f 98, f 99, f 100, f 101, f 102, f 103, f 104, f 105, f 106, f 107, f 108, f 109, f 110, f 111, f 112, f 113, f 114, f 115, f 116, f 117, f 118, f 119, f 120, f 121, f 122, f 123, f 124, f 125, f 126, f 127, f 128, f 129, f 130, f 131, f 132, f 133, f 134, f 135, f 136, f 137, f 138, f 139, f 140, f 141, f 142, f 143, f 144, f 145, f 146, f 147, f 148, .pointer (some ⟨g, 0, none⟩), .pointer (some ⟨g, 0, none⟩), .pointer (some ⟨g, 0, none⟩), .pointer (some ⟨g, 18, none⟩), v, .pointer (some ⟨P, 0, none⟩), .agg #[.int .i32 a], .string X2, .agg #[.string X2, .int .i32 a, .int .u32 0], .slice (some ⟨kb, 0, none⟩) 1 1, .slice (some ⟨gg, 0, none⟩) (n + 1) cap, .pointer (some ⟨g, 0, none⟩), .pointer (some ⟨g, 18, none⟩), f 162, f 163, f 164, f 165, f 166, f 167, f 168, f 169, f 170, f 171, f 172, f 173, f 174, f 175, f 176, f 177, f 178, f 179, f 180, f 181, f 182, f 183, f 184, f 185], []⟩) (by kernel_rfl) (by kernel_rfl) (by kernel_rfl) ?_
    refine wpAnyH_all (rs := [13]) (by kernel_rfl) (by decide) ?_
    intro i hi
    obtain rfl := List.mem_singleton.1 hi
    refine wpOp_step (o := _) rfl (fun K4 hK4 => ?_)
    rw [if_pos (by rfl)]
    go_simp
    refine hK4 _ _ ⟨((Keep.refl (fun j => j = g) w7).setCell (fun _ => rfl) _).blk hx7 hgP, ?_⟩
    refine wpAnyH_done (by kernel_rfl) ?_ _
    exact ⟨rfl, gg, cap, w7, wn, fun j => if j = 149 then .pointer (some ⟨g, 0, none⟩) else if j = 150 then .pointer (some ⟨g, 0, none⟩) else if j = 151 then .pointer (some ⟨g, 0, none⟩) else if j = 152 then .pointer (some ⟨g, 18, none⟩) else if j = 153 then v else if j = 154 then .pointer (some ⟨P, 0, none⟩) else if j = 155 then .agg #[.int .i32 a] else if j = 156 then .string X2 else if j = 157 then .agg #[.string X2, .int .i32 a, .int .u32 0] else if j = 158 then .slice (some ⟨kb, 0, none⟩) 1 1 else if j = 159 then .slice (some ⟨gg, 0, none⟩) (n + 1) cap else if j = 160 then .pointer (some ⟨g, 0, none⟩) else .pointer (some ⟨g, 18, none⟩), rfl, hown7, hKn, hgrow, hat.imp id (fun e => by omega), rfl⟩
  · obtain rfl := List.mem_singleton.1 hi
    refine wpOp_step (o := _) rfl (fun K2 hK2 => ?_)
    rw [if_pos (by rfl)]
    go_simp
    have hxn : (wd.alloc (.cells #[.string X2, .int .i32 a, .int .u32 0] 122)).heap[P]? = some (.cells #[.int .i32 a, .int .i32 b] 50 (0, 0)) := alloc_old _ hPd
    have hnb : (wd.alloc (.cells #[.string X2, .int .i32 a, .int .u32 0] 122)).heap[wd.heap.size]? = some (.cells #[.string X2, .int .i32 a, .int .u32 0] 122 (0, 0)) := heap_alloc_new _ _
    have hKn : KeepA w (wd.alloc (.cells #[.string X2, .int .i32 a, .int .u32 0] 122)) := hKd.alloc _
    have hon : (wd.alloc (.cells #[.string X2, .int .i32 a, .int .u32 0] 122)).ownsRow B 122 3 v n xs := hownd.alloc _
    have hcn : (wd.alloc (.cells #[.string X2, .int .i32 a, .int .u32 0] 122)).cell? ⟨g, 18, none⟩ = some v := (World.cell?_alloc_past _ _ _ (by have := HSZ.out; show g < _; omega)).trans hcd
    have hfn : (wd.alloc (.cells #[.string X2, .int .i32 a, .int .u32 0] 122)).frozen? ⟨g, 18, none⟩ = false := (World.frozen?_alloc_past _ _ _ (by have := HSZ.out; show g < _; omega)).trans hfd
    have hzn : (wd.alloc (.cells #[.string X2, .int .i32 a, .int .u32 0] 122)).heap.size = w.heap.size + 1 := by simp [HSZ.out]
    obtain ⟨wn, hwn⟩ : ∃ y, wd.alloc (.cells #[.string X2, .int .i32 a, .int .u32 0] 122) = y := ⟨_, rfl⟩
    rw [hwn] at hxn hnb hKn hon hcn hfn hzn ⊢
    obtain ⟨kb, hkb⟩ : ∃ y, wd.heap.size = y := ⟨_, rfl⟩
    rw [hkb] at hnb ⊢
    refine hK2 _ _ ⟨hxn, ?_⟩
    refine wpAnyH_cast (f' := 5) (x' := #[true, true, true, true, false, true, true, true, true, true, false, false, false, false]) (a' := ⟨#[.pointer (some ⟨g, 0, none⟩), f 1, f 2, .pointer (some ⟨P, 0, none⟩), f 4, f 5, f 6, f 7, f 8, f 9, f 10, .string X2, f 12, f 13, f 14, f 15, f 16, f 17, f 18, f 19, f 20, f 21, f 22, f 23, f 24, f 25, f 26, f 27, f 28, f 29, f 30, f 31, f 32, f 33, f 34, f 35, f 36, f 37, f 38, f 39, f 40, f 41, f 42, f 43, f 44, f 45, f 46, f 47, f 48, f 49, f 50, f 51, f 52, f 53, f 54, f 55, f 56, f 57, f 58, f 59, f 60, f 61, f 62, f 63, f 64, f 65, f 66, f 67, f 68, f 69, f 70, f 71, f 72, f 73, f 74, f 75, f 76, f 77, f 78, f 79, f 80, f 81, f 82, f 83, f 84, f 85, f 86, f 87, f 88, f 89, f 90, f 91, f 92, f 93, f 94, f 95, f 96, f 97, f 98, f 99, f 100, f 101, f 102, f 103, f 104, f 105, f 106, f 107, f 108, f 109, f 110, f 111, f 112, f 113, f 114, f 115, f 116, f 117, f 118, f 119, f 120, f 121, f 122, f 123, f 124, f 125, f 126, f 127, f 128, f 129, f 130, f 131, f 132, f 133, f 134, f 135, f 136, f 137, f 138, f 139, f 140, f 141, f 142, f 143, f 144, f 145, f 146, f 147, f 148, .pointer (some ⟨g, 0, none⟩), .pointer (some ⟨g, 0, none⟩), .pointer (some ⟨g, 0, none⟩), .pointer (some ⟨g, 18, none⟩), f 153, .pointer (some ⟨P, 0, none⟩), .agg #[.int .i32 a], .string X2, .agg #[.string X2, .int .i32 a, .int .u32 0], .slice (some ⟨kb, 0, none⟩) 1 1, f 159, f 160, f 161, f 162, f 163, f 164, f 165, f 166, f 167, f 168, f 169, f 170, f 171, f 172, f 173, f 174, f 175, f 176, f 177, f 178, f 179, f 180, f 181, f 182, f 183, f 184, f 185], []⟩) (by kernel_rfl) (by kernel_rfl) (by kernel_rfl) ?_
    refine wpAnyH_all (rs := [4]) (by kernel_rfl) (by decide) ?_
    intro i hi
    obtain rfl := List.mem_singleton.1 hi
    refine wpOp_step (o := _) rfl (fun K1 hK1 => ?_)
    rw [if_pos (by rfl)]
    go_simp
    refine hK1 _ _ ⟨hxn, ?_⟩
    refine wpAnyH_cast (f' := 4) (x' := #[true, true, true, true, true, true, true, true, true, true, false, false, false, false]) (a' := ⟨#[.pointer (some ⟨g, 0, none⟩), f 1, f 2, .pointer (some ⟨P, 0, none⟩), f 4, f 5, f 6, f 7, f 8, f 9, f 10, .string X2, f 12, f 13, f 14, f 15, f 16, f 17, f 18, f 19, f 20, f 21, f 22, f 23, f 24, f 25, f 26, f 27, f 28, f 29, f 30, f 31, f 32, f 33, f 34, f 35, f 36, f 37, f 38, f 39, f 40, f 41, f 42, f 43, f 44, f 45, f 46, f 47, f 48, f 49, f 50, f 51, f 52, f 53, f 54, f 55, f 56, f 57, f 58, f 59, f 60, f 61, f 62, f 63, f 64, f 65, f 66, f 67, f 68, f 69, f 70, f 71, f 72, f 73, f 74, f 75, f 76, f 77, f 78, f 79, f 80, f 81, f 82, f 83, f 84, f 85, f 86, f 87, f 88, f 89, f 90, f 91, f 92, f 93, f 94, f 95, f 96, f 97, f 98, f 99, f 100, f 101, f 102, f 103, f 104, f 105, f 106, f 107, f 108, f 109, f 110, f 111, f 112, f 113, f 114, f 115, f 116, f 117, f 118, f 119, f 120, f 121, f 122, f 123, f 124, f 125, f 126, f 127, f 128, f 129, f 130, f 131, f 132, f 133, f 134, f 135, f 136, f 137, f 138, f 139, f 140, f 141, f 142, f 143, f 144, f 145, f 146, f 147, f 148, .pointer (some ⟨g, 0, none⟩), .pointer (some ⟨g, 0, none⟩), .pointer (some ⟨g, 0, none⟩), .pointer (some ⟨g, 18, none⟩), v, .pointer (some ⟨P, 0, none⟩), .agg #[.int .i32 a], .string X2, .agg #[.string X2, .int .i32 a, .int .u32 0], .slice (some ⟨kb, 0, none⟩) 1 1, f 159, f 160, f 161, f 162, f 163, f 164, f 165, f 166, f 167, f 168, f 169, f 170, f 171, f 172, f 173, f 174, f 175, f 176, f 177, f 178, f 179, f 180, f 181, f 182, f 183, f 184, f 185], []⟩) (by kernel_rfl) (by kernel_rfl) (by kernel_rfl) ?_
    refine wpAnyH_all (rs := [10]) (by kernel_rfl) (by decide) ?_
    intro i hi
    obtain rfl := List.mem_singleton.1 hi
    refine wpOp_step (o := _) rfl (fun K3 hK3 => ?_)
    rw [if_pos (by rfl)]
    refine wp_append_lies _ _ _ 46 rfl B 122 i0 _ 3 24 Tryz.underlying46 hi0 hz0 hz1 hz2 rfl (by decide) v n xs rfl hon ⟨kb, 0, none⟩ 1 1 [.string X2, .int .i32 a, .int .u32 0] rfl rfl (World.news_of_block (cs := #[.string X2, .int .i32 a, .int .u32 0]) (t := 122) (fr := (0, 0)) hnb) (by simp [Value.oneCell']) (by decide) (by unfold maxLen; omega) (by omega) (by omega) (w.heap.size + 1) hzn ?_
    intro gg cap w7 hown7 hgrow hat hlt7
    have hx7 := (Keep.of_grown hgrow (fun j => v.ownBlock = some j) (fun j e => e)).blk hxn hvP
    have hc7 : w7.cell? ⟨g, 18, none⟩ = some v := (hgrow.cell_far ⟨g, 18, none⟩ (by have := HSZ.out; show g < _; omega) (Ne.symm hvg)).trans hcn
    have hf7 : w7.frozen? ⟨g, 18, none⟩ = false := (hgrow.frozen_far ⟨g, 18, none⟩ (by have := HSZ.out; show g < _; omega) (Ne.symm hvg)).trans hfn
    refine hK3 _ _ ⟨hx7, ?_⟩
    refine wpAnyH_cast (f' := 3) (x' := #[true, true, true, true, true, true, true, true, true, true, true, false, false, false]) (a' := ⟨#[.pointer (some ⟨g, 0, none⟩), f 1, f 2, .pointer (some ⟨P, 0, none⟩), f 4, f 5, f 6, f 7, f 8, f 9, f 10, .string X2, f 12, f 13, f 14, f 15, f 16, f 17, f 18, f 19, f 20, f 21, f 22, f 23, f 24, f 25, f 26, f 27, f 28, f 29, f 30, f 31, f 32, f 33, f 34, f 35, f 36, f 37, f 38, f 39, f 40, f 41, f 42, f 43, f 44, f 45, f 46, f 47, f 48, f 49, f 50, f 51, f 52, f 53, f 54, f 55, f 56, f 57, f 58, f 59, f 60, f 61, f 62, f 63, f 64, f 65, f 66, f 67, f 68, f 69, f 70, f 71, f 72, f 73, f 74, f 75, f 76, f 77, f 78, f 79, f 80, f 81, f 82, f 83, f 84, f 85, f 86, f 87, f 88, f 89, f 90, f 91, f 92, f 93, f 94, f 95, f 96, f 97, f 98, f 99, f 100, f 101, f 102, f 103, f 104, f 105, f 106, f 107, f 108, f 109, f 110, f 111, f 112, f 113, f 114, f 115, f 116, f 117, f 118, f 119, f 120, f 121, f 122, f 123, f 124, f 125, f 126, f 127, f 128, f 129, f 130, f 131, f 132, f 133, f 134, f 135, f 136, f 137, f 138, f 139, f 140, f 141, f 142, f 143, f 144, f 145, f 146, f 147, f 148, .pointer (some ⟨g, 0, none⟩), .pointer (some ⟨g, 0, none⟩), .pointer (some ⟨g, 0, none⟩), .pointer (some ⟨g, 18, none⟩), v, .pointer (some ⟨P, 0, none⟩), .agg #[.int .i32 a], .string X2, .agg #[.string X2, .int .i32 a, .int .u32 0], .slice (some ⟨kb, 0, none⟩) 1 1, .slice (some ⟨gg, 0, none⟩) (n + 1) cap, f 160, f 161, f 162, f 163, f 164, f 165, f 166, f 167, f 168, f 169, f 170, f 171, f 172, f 173, f 174, f 175, f 176, f 177, f 178, f 179, f 180, f 181, f 182, f 183, f 184, f 185], []⟩) (by kernel_rfl) (by kernel_rfl) (by kernel_rfl) ?_
    refine wpAnyH_take (i := 11) (oi := _) (v := .pointer (some ⟨g, 0, none⟩)) rfl (by kernel_rfl) (by kernel_rfl) (by kernel_rfl) (hQx _ _) (.inl ⟨by rfl, fun w' s1 => ?_⟩) hx7 ?_
    · go_simp
    refine wpAnyH_take (i := 12) (oi := _) (v := .pointer (some ⟨g, 18, none⟩)) rfl (by kernel_rfl) (by kernel_rfl) (by kernel_rfl) (hQx _ _) (.inl ⟨by rfl, fun w' s1 => ?_⟩) hx7 ?_
    · go_simp
    refine wpAnyH_cast (f' := 1) (x' := #[true, true, true, true, true, true, true, true, true, true, true, true, true, false]) (a' := ⟨#[.pointer (some ⟨g, 0, none⟩), f 1, f 2, .pointer (some ⟨P, 0, none⟩), f 4, f 5, f 6, f 7, f 8, f 9, f 10, .string X2, f 12, f 13, f 14, f 15, f 16, f 17, f 18, f 19, f 20, f 21, f 22, f 23, f 24, f 25, f 26, f 27, f 28, f 29, f 30, f 31, f 32, f 33, f 34, f 35, f 36, f 37, f 38, f 39, f 40, f 41, f 42, f 43, f 44, f 45, f 46, f 47, f 48, f 49, f 50, f 51, f 52, f 53, f 54, f 55, f 56, f 57, f 58, f 59, f 60, f 61, f 62, f 63, f 64, f 65, f 66, f 67, f 68, f 69, f 70, f 71, f 72, f 73, f 74, f 75, f 76, f 77, f 78, f 79, f 80, f 81, f 82, f 83, f 84, f 85, f 86, f 87, f 88, f 89, f 90, f 91, f 92, f 93, f 94, f 95, f 96, f 97, f 98, f 99, f 100, f 101, f 102, f 103, f 104, f 105, f 106, f 107, f 108, f 109, f 110, f 111, f 112, f 113, f 114, f 115, f 116, f 117, f 118, f 119, f 120, f 121, f 122, f 123, f 124, f 125, f 126, f 127, f 128, f 129, f 130, f 131, f 132, f 133, f 134, f 135, f 136, f 137, f 138, f 139, f 140, f 141, f 142, f 143, f 144, f 145, f 146, f 147, f 148, .pointer (some ⟨g, 0, none⟩), .pointer (some ⟨g, 0, none⟩), .pointer (some ⟨g, 0, none⟩), .pointer (some ⟨g, 18, none⟩), v, .pointer (some ⟨P, 0, none⟩), .agg #[.int .i32 a], .string X2, .agg #[.string X2, .int .i32 a, .int .u32 0], .slice (some ⟨kb, 0, none⟩) 1 1, .slice (some ⟨gg, 0, none⟩) (n + 1) cap, .pointer (some ⟨g, 0, none⟩), .pointer (some ⟨g, 18, none⟩), f 162, f 163, f 164, f 165, f 166, f 167, f 168, f 169, f 170, f 171, f 172, f 173, f 174, f 175, f 176, f 177, f 178, f 179, f 180, f 181, f 182, f 183, f 184, f 185], []⟩) (by kernel_rfl) (by kernel_rfl) (by kernel_rfl) ?_
    refine wpAnyH_all (rs := [13]) (by kernel_rfl) (by decide) ?_
    intro i hi
    obtain rfl := List.mem_singleton.1 hi
    refine wpOp_step (o := _) rfl (fun K4 hK4 => ?_)
    rw [if_pos (by rfl)]
    go_simp
    refine hK4 _ _ ⟨((Keep.refl (fun j => j = g) w7).setCell (fun _ => rfl) _).blk hx7 hgP, ?_⟩
    refine wpAnyH_done (by kernel_rfl) ?_ _
    exact ⟨rfl, gg, cap, w7, wn, fun j => if j = 149 then .pointer (some ⟨g, 0, none⟩) else if j = 150 then .pointer (some ⟨g, 0, none⟩) else if j = 151 then .pointer (some ⟨g, 0, none⟩) else if j = 152 then .pointer (some ⟨g, 18, none⟩) else if j = 153 then v else if j = 154 then .pointer (some ⟨P, 0, none⟩) else if j = 155 then .agg #[.int .i32 a] else if j = 156 then .string X2 else if j = 157 then .agg #[.string X2, .int .i32 a, .int .u32 0] else if j = 158 then .slice (some ⟨kb, 0, none⟩) 1 1 else if j = 159 then .slice (some ⟨gg, 0, none⟩) (n + 1) cap else if j = 160 then .pointer (some ⟨g, 0, none⟩) else .pointer (some ⟨g, 18, none⟩), rfl, hown7, hKn, hgrow, hat.imp id (fun e => by omega), rfl⟩
theorem r14R30_at {w : World} {g P B n : Nat} {v : Value} {xs : List Value} {a b : Int} {X2 : ByteArray} (hP : w.heap[P]? = some (.cells #[.int .i32 a, .int .i32 b] 50 (0, 0))) (hc : w.cell? ⟨g, 18, none⟩ = some v) (hf : w.frozen? ⟨g, 18, none⟩ = false) (hown : w.ownsRow B 122 3 v n xs) (hn : n ≤ 1099511627776) (hB : B ≤ w.heap.size) (hg : g < w.heap.size) (hgP : P ≠ g) (hvg : v.ownBlock ≠ some g) (hvP : v.ownBlock ≠ some P) (t : Array Value) (ht : t.size = 186) (h0 : t.toList.getD 0 undef = .pointer (some ⟨g, 0, none⟩)) (h3 : t.toList.getD 3 undef = .pointer (some ⟨P, 0, none⟩)) (h11 : t.toList.getD 11 undef = .string X2) :
    Code.wp Tryz.prog r14R30 (r14R30Q w g P B n v xs a b X2 (fun j => t.toList.getD j undef)) ⟨t, []⟩ w := by
  obtain ⟨tl⟩ := t
  have e := t12_list tl undef 0
  rw [show tl.length = 186 from ht, r14_letters (fun i => tl.getD i undef)] at e
  have e2 := congrArg List.toArray e
  simp only at h0 h3 h11 e2
  rw [h0, h3, h11] at e2
  refine Eq.mp (congrArg (fun z => Code.wp Tryz.prog r14R30 (r14R30Q w g P B n v xs a b X2 (fun j => tl.getD j undef)) ⟨z, []⟩ w) e2.symm) ?_
  exact r14R30_wp hP hc hf hown hn hB hg hgP hvg hvP (fun j => tl.getD j undef)
end Go.Proofs.YtedckphklebndaaGreatDoor
