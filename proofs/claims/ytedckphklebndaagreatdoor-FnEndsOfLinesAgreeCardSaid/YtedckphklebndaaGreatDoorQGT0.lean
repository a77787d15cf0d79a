/- What Tokenize leaves in memory. No condition. -/
import Derived.Test.YtedckphklebndaaGreatDoorQGS
import Derived.Test.YtedckphklebndaaGreatDoorQGX3
import Derived.Laws.Tables
import Derived.Test.YtedckphklebndaaGreatDoorQGP1
import Derived.OrdersHeld
namespace Go.Proofs.YtedckphklebndaaGreatDoor
open Go Go.RowKit
/-- A token's cells in the package, with its flags. -/
def lxC (s : ByteArray) (p : (Tok × List Int × List Int) × Int) : List Value :=
  [.int .i32 (ps s p.1.2.1), .int .i32 ((ps s p.1.2.2 : Int) - ps s p.1.2.1), .int .u16 (p.1.1.unit % 65536), .int .u8 p.1.1.kind, .int .u8 p.2]
def FL (p : (Tok × List Int × List Int) × Int) : Prop := (p.2 = 0 ∨ p.2 = 1 ∨ p.2 = 2) ∧ (p.2 = 1 ↔ p.1.1.id = true)
theorem own_slice {w : World} {B T sz n : Nat} {v : Value} {xs : List Value} (h : w.ownsRow B T sz v n xs) : ∃ p c, v = .slice p n c := by
  rcases h.2 with ⟨rfl, rfl⟩ | ⟨_, cap, _, rfl, _⟩
  · exact ⟨none, 0, rfl⟩
  · exact ⟨_, cap, rfl⟩
/-- What Tokenize leaves: the package's tokens in a row of their own. -/
def TkE (W : Nat) (w : World) (s : ByteArray) (l : List Int) (e : Ending) (w' : World) : Prop :=
  ∃ (dn : List ((Tok × List Int × List Int) × Int)) (a b c d e1 f1 x : Value), e = .returned (.agg #[a, b, c, d, e1, f1, x]) ∧ (#[a, b, c, d, e1, f1, x] : Array Value).all (·.oneCell') = true ∧ w'.ownsRow W 60 5 a dn.length (dn.flatMap (lxC s)) ∧ (∀ p ∈ dn, FL p) ∧ dn.map Prod.fst = ptoks l ∧ Below W w w'
theorem ownsRow_low {w : World} {B B' T sz n : Nat} {v : Value} {xs : List Value} (h : w.ownsRow B T sz v n xs) (hB : B' ≤ B) : w.ownsRow B' T sz v n xs := by
  refine ⟨h.1, ?_⟩
  rcases h.2 with e | ⟨g, cap, cur, e, hb, r⟩
  · exact .inl e
  · exact .inr ⟨g, cap, cur, e, by omega, r⟩
theorem Below.low {B B' : Nat} {w w' : World} (h : Below B w w') (hB : B' ≤ B) : Below B' w w' :=
  ⟨h.os, h.tape, h.output, h.size, fun k hk => h.block k (by omega)⟩
theorem Keep.setRowN {w w1 : World} {g : Nat} (h : KeepA w w1) (hg : w.heap.size ≤ g) (cs : Array Value) : KeepA w (w1.setRow g cs) :=
  ⟨h.os, h.tape, h.output, Nat.le_trans h.size (by simp [World.setRow]), fun k hk hn => (by rw [← h.block k hk hn]; exact setRow_other _ _ _ _ (by omega))⟩
def regions : Code → List Code
  | .region i ops d => [.region i ops d]
  | .loop c => regions c
  | .seq a b => regions a ++ regions b
  | .block _ c => regions c
  | .scope c => regions c
  | .cond _ a b => regions a ++ regions b
  | _ => []
end Go.Proofs.YtedckphklebndaaGreatDoor
/- The region of the laws' Tokens that makes a token. Conditions: the token's cells lie in block X; its numbers are in range. -/
namespace Go.Proofs.YtedckphklebndaaGreatDoor
open Go Go.RowKit
theorem wpAnyH_cast {P : Program} {md : Region.Mode} {ops : Array Oper} {Q : Exit → Act → World → Prop} {S : World → Prop} {w : World} {f f' : Nat} {x x' : Array Bool} {a a' : Act} (h1 : f = f') (h2 : x = x') (h3 : a = a') (h : wpAnyH P md ops Q S f' x' a' w) : wpAnyH P md ops Q S f x a w := by
  subst h1 h2 h3; exact h
noncomputable def t12R5 : Code := (((Tryz.f12.body.map regions).getD [])[5]?).getD .skip
/-- What it leaves: the token in a new block. -/
def T12Q (wb : World) (X : Nat) (f : Nat → Value) (kd un : Int) (pa pe : Nat) (id : Bool) (e : Exit) (a : Act) (w : World) : Prop :=
  e = .normal ∧ ∃ (Y : Nat) (h : Nat → Value), a = ⟨#[f 0, f 1, f 2, f 3, f 4, .pointer (some ⟨X, 0, none⟩), .pointer (some ⟨Y, 0, none⟩), f 7, f 8, f 9, f 10, f 11, f 12, f 13, f 14, h 15, h 16, h 17, h 18, h 19, h 20, h 21, h 22, h 23, h 24, h 25, h 26, h 27, h 28, h 29, h 30, h 31, h 32, h 33, h 34, f 35, f 36, f 37, f 38, f 39, f 40, f 41, f 42, f 43, f 44], []⟩ ∧ wb.heap.size ≤ Y ∧ w.heap[Y]? = some (.cells #[.int .i64 kd, .int .i64 pa, .int .i64 pe, .int .i64 un, .bool id, .string ⟨#[]⟩] 28 (0, 0)) ∧ KeepA wb w
set_option maxRecDepth 100000 in
set_option maxHeartbeats 8000000 in
theorem t12_region (fl an : Int) (b : Bool) (hand : bits BinOp.and .u8 fl 1 = an) (hne : (an != 0) = b) (wb : World) (X : Nat) (f : Nat → Value) (kd un : Int) (pa pe : Nat) (hB : wb.heap[X]? = some (.cells #[.int .i32 pa, .int .i32 ((pe : Int) - pa), .int .u16 un, .int .u8 kd, .int .u8 fl] 60 (0, 0))) (hk : 0 ≤ kd ∧ kd < 256) (hu : 0 ≤ un ∧ un < 65536) (hpa : pa ≤ 1073741824) (hpe : pe ≤ 1073741824) :
    Code.wp Tryz.prog t12R5 (T12Q wb X f kd un pa pe b) ⟨#[f 0, f 1, f 2, f 3, f 4, .pointer (some ⟨X, 0, none⟩), f 6, f 7, f 8, f 9, f 10, f 11, f 12, f 13, f 14, f 15, f 16, f 17, f 18, f 19, f 20, f 21, f 22, f 23, f 24, f 25, f 26, f 27, f 28, f 29, f 30, f 31, f 32, f 33, f 34, f 35, f 36, f 37, f 38, f 39, f 40, f 41, f 42, f 43, f 44], []⟩ wb := by
  conv => arg 2; whnf
  obtain ⟨hk0, hk1⟩ := hk
  obtain ⟨hu0, hu1⟩ := hu
  have v1 : IntKind.i64.wrap kd = kd := by rw [IntKind.wrap_i64]; omega
  have v2 : IntKind.i64.wrap un = un := by rw [IntKind.wrap_i64]; omega
  have v3 : IntKind.i64.wrap (pa : Int) = pa := by rw [IntKind.wrap_i64]; omega
  have v4 : IntKind.i64.wrap (pe : Int) = pe := by rw [IntKind.wrap_i64]; omega
  have z0 : ∀ wz : World, wz.heap[X]? = some (.cells #[.int .i32 pa, .int .i32 ((pe : Int) - pa), .int .u16 un, .int .u8 kd, .int .u8 fl] 60 (0, 0)) → wz.cell? ⟨X, 0, none⟩ = some (.int .i32 pa) := fun wz e => (blk_cell e 0).trans rfl
  have z1 : ∀ wz : World, wz.heap[X]? = some (.cells #[.int .i32 pa, .int .i32 ((pe : Int) - pa), .int .u16 un, .int .u8 kd, .int .u8 fl] 60 (0, 0)) → wz.cell? ⟨X, 1, none⟩ = some (.int .i32 ((pe : Int) - pa)) := fun wz e => (blk_cell e 1).trans rfl
  have z2 : ∀ wz : World, wz.heap[X]? = some (.cells #[.int .i32 pa, .int .i32 ((pe : Int) - pa), .int .u16 un, .int .u8 kd, .int .u8 fl] 60 (0, 0)) → wz.cell? ⟨X, 2, none⟩ = some (.int .u16 un) := fun wz e => (blk_cell e 2).trans rfl
  have z3 : ∀ wz : World, wz.heap[X]? = some (.cells #[.int .i32 pa, .int .i32 ((pe : Int) - pa), .int .u16 un, .int .u8 kd, .int .u8 fl] 60 (0, 0)) → wz.cell? ⟨X, 3, none⟩ = some (.int .u8 kd) := fun wz e => (blk_cell e 3).trans rfl
  have z4 : ∀ wz : World, wz.heap[X]? = some (.cells #[.int .i32 pa, .int .i32 ((pe : Int) - pa), .int .u16 un, .int .u8 kd, .int .u8 fl] 60 (0, 0)) → wz.cell? ⟨X, 4, none⟩ = some (.int .u8 fl) := fun wz e => (blk_cell e 4).trans rfl
  have hS0 : wb.drew.heap[X]? = some (.cells #[.int .i32 pa, .int .i32 ((pe : Int) - pa), .int .u16 un, .int .u8 kd, .int .u8 fl] 60 (0, 0)) := hB
  have hSK : ∀ wz, KeepA wb wz → wz.heap[X]? = some (.cells #[.int .i32 pa, .int .i32 ((pe : Int) - pa), .int .u16 un, .int .u8 kd, .int .u8 fl] 60 (0, 0)) := fun wz k => k.blk hB (fun x => x)
  have hQx : ∀ (d : Option Nat) (v : Value) c a w, T12Q wb X f kd un pa pe b (.panic c) (Act.put a d v) w → T12Q wb X f kd un pa pe b (.panic c) a w := fun d v c a w h => by obtain ⟨h, _⟩ := h; cases h
  refine wp_region_held (S := fun w' => w'.heap[X]? = some (.cells #[.int .i32 pa, .int .i32 ((pe : Int) - pa), .int .u16 un, .int .u8 kd, .int .u8 fl] 60 (0, 0))) (by kernel_rfl) ?_
  refine wpAnyH_take (i := 0) (oi := _) (v := .pointer (some ⟨X, 3, none⟩)) rfl (by kernel_rfl) (by kernel_rfl) (by kernel_rfl) (hQx _ _) (.inl ⟨by rfl, fun w' s1 => ?_⟩) hS0 ?_
  · have y0 := z0 _ s1
    have y1 := z1 _ s1
    have y2 := z2 _ s1
    have y3 := z3 _ s1
    have y4 := z4 _ s1
    go_simp
  refine wpAnyH_take (i := 1) (oi := _) (v := .int .u8 kd) rfl (by kernel_rfl) (by kernel_rfl) (by kernel_rfl) (hQx _ _) (.inl ⟨by rfl, fun w' s1 => ?_⟩) hS0 ?_
  · have y0 := z0 _ s1
    have y1 := z1 _ s1
    have y2 := z2 _ s1
    have y3 := z3 _ s1
    have y4 := z4 _ s1
    go_simp
  refine wpAnyH_take (i := 2) (oi := _) (v := .int .i64 kd) rfl (by kernel_rfl) (by kernel_rfl) (by kernel_rfl) (hQx _ _) (.inl ⟨by rfl, fun w' s1 => ?_⟩) hS0 ?_
  · have y0 := z0 _ s1
    have y1 := z1 _ s1
    have y2 := z2 _ s1
    have y3 := z3 _ s1
    have y4 := z4 _ s1
    go_simp
  refine wpAnyH_take (i := 3) (oi := _) (v := .pointer (some ⟨X, 0, none⟩)) rfl (by kernel_rfl) (by kernel_rfl) (by kernel_rfl) (hQx _ _) (.inl ⟨by rfl, fun w' s1 => ?_⟩) hS0 ?_
  · have y0 := z0 _ s1
    have y1 := z1 _ s1
    have y2 := z2 _ s1
    have y3 := z3 _ s1
    have y4 := z4 _ s1
    go_simp
  refine wpAnyH_take (i := 4) (oi := _) (v := .pointer (some ⟨X, 0, none⟩)) rfl (by kernel_rfl) (by kernel_rfl) (by kernel_rfl) (hQx _ _) (.inl ⟨by rfl, fun w' s1 => ?_⟩) hS0 ?_
  · have y0 := z0 _ s1
    have y1 := z1 _ s1
    have y2 := z2 _ s1
    have y3 := z3 _ s1
    have y4 := z4 _ s1
    go_simp
  refine wpAnyH_take (i := 5) (oi := _) (v := .pointer (some ⟨X, 0, none⟩)) rfl (by kernel_rfl) (by kernel_rfl) (by kernel_rfl) (hQx _ _) (.inl ⟨by rfl, fun w' s1 => ?_⟩) hS0 ?_
  · have y0 := z0 _ s1
    have y1 := z1 _ s1
    have y2 := z2 _ s1
    have y3 := z3 _ s1
    have y4 := z4 _ s1
    go_simp
  refine wpAnyH_take (i := 6) (oi := _) (v := .int .i32 pa) rfl (by kernel_rfl) (by kernel_rfl) (by kernel_rfl) (hQx _ _) (.inl ⟨by rfl, fun w' s1 => ?_⟩) hS0 ?_
  · have y0 := z0 _ s1
    have y1 := z1 _ s1
    have y2 := z2 _ s1
    have y3 := z3 _ s1
    have y4 := z4 _ s1
    go_simp
  refine wpAnyH_take (i := 7) (oi := _) (v := .int .i64 pa) rfl (by kernel_rfl) (by kernel_rfl) (by kernel_rfl) (hQx _ _) (.inl ⟨by rfl, fun w' s1 => ?_⟩) hS0 ?_
  · have y0 := z0 _ s1
    have y1 := z1 _ s1
    have y2 := z2 _ s1
    have y3 := z3 _ s1
    have y4 := z4 _ s1
    go_simp
  refine wpAnyH_take (i := 8) (oi := _) (v := .pointer (some ⟨X, 0, none⟩)) rfl (by kernel_rfl) (by kernel_rfl) (by kernel_rfl) (hQx _ _) (.inl ⟨by rfl, fun w' s1 => ?_⟩) hS0 ?_
  · have y0 := z0 _ s1
    have y1 := z1 _ s1
    have y2 := z2 _ s1
    have y3 := z3 _ s1
    have y4 := z4 _ s1
    go_simp
  refine wpAnyH_take (i := 9) (oi := _) (v := .agg #[.int .i32 pa, .int .i32 ((pe : Int) - pa)]) rfl (by kernel_rfl) (by kernel_rfl) (by kernel_rfl) (hQx _ _) (.inl ⟨by rfl, fun w' s1 => ?_⟩) hS0 ?_
  · have y0 := z0 _ s1
    have y1 := z1 _ s1
    have y2 := z2 _ s1
    have y3 := z3 _ s1
    have y4 := z4 _ s1
    go_simp
  refine wpAnyH_take (i := 12) (oi := _) (v := .pointer (some ⟨X, 2, none⟩)) rfl (by kernel_rfl) (by kernel_rfl) (by kernel_rfl) (hQx _ _) (.inl ⟨by rfl, fun w' s1 => ?_⟩) hS0 ?_
  · have y0 := z0 _ s1
    have y1 := z1 _ s1
    have y2 := z2 _ s1
    have y3 := z3 _ s1
    have y4 := z4 _ s1
    go_simp
  refine wpAnyH_take (i := 13) (oi := _) (v := .int .u16 un) rfl (by kernel_rfl) (by kernel_rfl) (by kernel_rfl) (hQx _ _) (.inl ⟨by rfl, fun w' s1 => ?_⟩) hS0 ?_
  · have y0 := z0 _ s1
    have y1 := z1 _ s1
    have y2 := z2 _ s1
    have y3 := z3 _ s1
    have y4 := z4 _ s1
    go_simp
  refine wpAnyH_take (i := 14) (oi := _) (v := .int .i64 un) rfl (by kernel_rfl) (by kernel_rfl) (by kernel_rfl) (hQx _ _) (.inl ⟨by rfl, fun w' s1 => ?_⟩) hS0 ?_
  · have y0 := z0 _ s1
    have y1 := z1 _ s1
    have y2 := z2 _ s1
    have y3 := z3 _ s1
    have y4 := z4 _ s1
    go_simp
  refine wpAnyH_take (i := 15) (oi := _) (v := .pointer (some ⟨X, 4, none⟩)) rfl (by kernel_rfl) (by kernel_rfl) (by kernel_rfl) (hQx _ _) (.inl ⟨by rfl, fun w' s1 => ?_⟩) hS0 ?_
  · have y0 := z0 _ s1
    have y1 := z1 _ s1
    have y2 := z2 _ s1
    have y3 := z3 _ s1
    have y4 := z4 _ s1
    go_simp
  refine wpAnyH_take (i := 16) (oi := _) (v := .int .u8 fl) rfl (by kernel_rfl) (by kernel_rfl) (by kernel_rfl) (hQx _ _) (.inl ⟨by rfl, fun w' s1 => ?_⟩) hS0 ?_
  · have y0 := z0 _ s1
    have y1 := z1 _ s1
    have y2 := z2 _ s1
    have y3 := z3 _ s1
    have y4 := z4 _ s1
    go_simp
  refine wpAnyH_take (i := 17) (oi := _) (v := .int .u8 an) rfl (by kernel_rfl) (by kernel_rfl) (by kernel_rfl) (hQx _ _) (.inl ⟨by rfl, fun w' s1 => ?_⟩) hS0 ?_
  · have y0 := z0 _ s1
    have y1 := z1 _ s1
    have y2 := z2 _ s1
    have y3 := z3 _ s1
    have y4 := z4 _ s1
    go_simp
  refine wpAnyH_take (i := 18) (oi := _) (v := .bool b) rfl (by kernel_rfl) (by kernel_rfl) (by kernel_rfl) (hQx _ _) (.inl ⟨by rfl, fun w' s1 => ?_⟩) hS0 ?_
  · have y0 := z0 _ s1
    have y1 := z1 _ s1
    have y2 := z2 _ s1
    have y3 := z3 _ s1
    have y4 := z4 _ s1
    go_simp
  refine wpAnyH_cast (f' := 5) (x' := #[true, true, true, true, true, true, true, true, true, true, false, false, true, true, true, true, true, true, true, false, false, false]) (a' := ⟨#[f 0, f 1, f 2, f 3, f 4, .pointer (some ⟨X, 0, none⟩), f 6, f 7, f 8, f 9, f 10, f 11, f 12, f 13, f 14, .pointer (some ⟨X, 3, none⟩), .int .u8 kd, .int .i64 kd, .pointer (some ⟨X, 0, none⟩), .pointer (some ⟨X, 0, none⟩), .pointer (some ⟨X, 0, none⟩), .int .i32 pa, .int .i64 pa, .pointer (some ⟨X, 0, none⟩), .agg #[.int .i32 pa, .int .i32 ((pe : Int) - pa)], f 25, f 26, .pointer (some ⟨X, 2, none⟩), .int .u16 un, .int .i64 un, .pointer (some ⟨X, 4, none⟩), .int .u8 fl, .int .u8 an, .bool b, f 34, f 35, f 36, f 37, f 38, f 39, f 40, f 41, f 42, f 43, f 44], []⟩) (by kernel_rfl) (by kernel_rfl) (by kernel_rfl) ?_
  refine wpAnyH_all (rs := [10, 20]) (by kernel_rfl) (by decide) ?_
  intro i hi
  rcases List.mem_cons.1 hi with rfl | hi
  · -- the call first
    refine wpOp_step (o := _) rfl (fun K1 hK1 => ?_)
    rw [if_pos (by rfl)]
    go_simp
    go_at_call 24
    refine (End_at pa pe hpe _).mono ?_
    rintro e w2 ⟨rfl, hK2⟩
    have hKb2 : KeepA wb w2 := ((Keep.refl (fun _ => False) wb).drew).trans hK2
    refine hK1 _ _ ⟨hSK _ hKb2, ?_⟩
    refine wpAnyH_cast (f' := 4) (x' := #[true, true, true, true, true, true, true, true, true, true, true, false, true, true, true, true, true, true, true, false, false, false]) (a' := ⟨#[f 0, f 1, f 2, f 3, f 4, .pointer (some ⟨X, 0, none⟩), f 6, f 7, f 8, f 9, f 10, f 11, f 12, f 13, f 14, .pointer (some ⟨X, 3, none⟩), .int .u8 kd, .int .i64 kd, .pointer (some ⟨X, 0, none⟩), .pointer (some ⟨X, 0, none⟩), .pointer (some ⟨X, 0, none⟩), .int .i32 pa, .int .i64 pa, .pointer (some ⟨X, 0, none⟩), .agg #[.int .i32 pa, .int .i32 ((pe : Int) - pa)], .int .i32 pe, f 26, .pointer (some ⟨X, 2, none⟩), .int .u16 un, .int .i64 un, .pointer (some ⟨X, 4, none⟩), .int .u8 fl, .int .u8 an, .bool b, f 34, f 35, f 36, f 37, f 38, f 39, f 40, f 41, f 42, f 43, f 44], []⟩) (by kernel_rfl) (by kernel_rfl) (by kernel_rfl) ?_
    refine wpAnyH_take (i := 11) (oi := _) (v := .int .i64 pe) rfl (by kernel_rfl) (by kernel_rfl) (by kernel_rfl) (hQx _ _) (.inl ⟨by rfl, fun w' s1 => ?_⟩) (hSK _ hKb2) ?_
    · go_simp
    refine wpAnyH_take (i := 19) (oi := _) (v := .agg #[.int .i64 kd, .int .i64 pa, .int .i64 pe, .int .i64 un, .bool b, .string ⟨#[]⟩]) rfl (by kernel_rfl) (by kernel_rfl) (by kernel_rfl) (hQx _ _) (.inl ⟨by rfl, fun w' _ => by kernel_rfl⟩) (hSK _ hKb2) ?_
    refine wpAnyH_cast (f' := 2) (x' := #[true, true, true, true, true, true, true, true, true, true, true, true, true, true, true, true, true, true, true, true, false, false]) (a' := ⟨#[f 0, f 1, f 2, f 3, f 4, .pointer (some ⟨X, 0, none⟩), f 6, f 7, f 8, f 9, f 10, f 11, f 12, f 13, f 14, .pointer (some ⟨X, 3, none⟩), .int .u8 kd, .int .i64 kd, .pointer (some ⟨X, 0, none⟩), .pointer (some ⟨X, 0, none⟩), .pointer (some ⟨X, 0, none⟩), .int .i32 pa, .int .i64 pa, .pointer (some ⟨X, 0, none⟩), .agg #[.int .i32 pa, .int .i32 ((pe : Int) - pa)], .int .i32 pe, .int .i64 pe, .pointer (some ⟨X, 2, none⟩), .int .u16 un, .int .i64 un, .pointer (some ⟨X, 4, none⟩), .int .u8 fl, .int .u8 an, .bool b, .agg #[.int .i64 kd, .int .i64 pa, .int .i64 pe, .int .i64 un, .bool b, .string ⟨#[]⟩], f 35, f 36, f 37, f 38, f 39, f 40, f 41, f 42, f 43, f 44], []⟩) (by kernel_rfl) (by kernel_rfl) (by kernel_rfl) ?_
    refine wpAnyH_all (rs := [20]) (by kernel_rfl) (by decide) ?_
    intro i hi
    obtain rfl := List.mem_singleton.1 hi
    refine wpOp_step (o := _) rfl (fun K2 hK2' => ?_)
    rw [if_pos (by rfl)]
    go_simp
    have hKb3 : KeepA wb (w2.alloc (.cells #[.int .i64 0, .int .i64 0, .int .i64 0, .int .i64 0, .bool false, .string ⟨#[]⟩] 28)) := hKb2.alloc _
    refine hK2' _ _ ⟨hSK _ hKb3, ?_⟩
    have hG : (w2.alloc (.cells #[.int .i64 0, .int .i64 0, .int .i64 0, .int .i64 0, .bool false, .string ⟨#[]⟩] 28)).heap[w2.heap.size]? = some (.cells #[.int .i64 0, .int .i64 0, .int .i64 0, .int .i64 0, .bool false, .string ⟨#[]⟩] 28 (0, 0)) := heap_alloc_new _ _
    refine wpAnyH_cast (f' := 1) (x' := #[true, true, true, true, true, true, true, true, true, true, true, true, true, true, true, true, true, true, true, true, true, false]) (a' := ⟨#[f 0, f 1, f 2, f 3, f 4, .pointer (some ⟨X, 0, none⟩), .pointer (some ⟨w2.heap.size, 0, none⟩), f 7, f 8, f 9, f 10, f 11, f 12, f 13, f 14, .pointer (some ⟨X, 3, none⟩), .int .u8 kd, .int .i64 kd, .pointer (some ⟨X, 0, none⟩), .pointer (some ⟨X, 0, none⟩), .pointer (some ⟨X, 0, none⟩), .int .i32 pa, .int .i64 pa, .pointer (some ⟨X, 0, none⟩), .agg #[.int .i32 pa, .int .i32 ((pe : Int) - pa)], .int .i32 pe, .int .i64 pe, .pointer (some ⟨X, 2, none⟩), .int .u16 un, .int .i64 un, .pointer (some ⟨X, 4, none⟩), .int .u8 fl, .int .u8 an, .bool b, .agg #[.int .i64 kd, .int .i64 pa, .int .i64 pe, .int .i64 un, .bool b, .string ⟨#[]⟩], f 35, f 36, f 37, f 38, f 39, f 40, f 41, f 42, f 43, f 44], []⟩) (by kernel_rfl) (by kernel_rfl) (by kernel_rfl) ?_
    refine wpAnyH_all (rs := [21]) (by kernel_rfl) (by decide) ?_
    intro i hi
    obtain rfl := List.mem_singleton.1 hi
    refine wpOp_step (o := _) rfl (fun K3 hK3 => ?_)
    rw [if_pos (by rfl)]
    refine wp_store_row 28 _ _ rfl w2.heap.size #[.int .i64 kd, .int .i64 pa, .int .i64 pe, .int .i64 un, .bool b, .string ⟨#[]⟩] rfl rfl 28 _ hG (by kernel_rfl) (by kernel_rfl) (by kernel_rfl) ?_
    have hg2 := setRow_heap _ w2.heap.size _ #[.int .i64 kd, .int .i64 pa, .int .i64 pe, .int .i64 un, .bool b, .string ⟨#[]⟩] _ _ hG
    have hk2 : KeepA wb _ := (Keep.setRowN (g := w2.heap.size) hKb3 hKb2.size #[.int .i64 kd, .int .i64 pa, .int .i64 pe, .int .i64 un, .bool b, .string ⟨#[]⟩])
    refine hK3 _ _ ⟨hSK _ hk2, ?_⟩
    refine wpAnyH_done (by kernel_rfl) ?_ _
    exact ⟨rfl, w2.heap.size, fun j => if j = 15 then .pointer (some ⟨X, 3, none⟩) else if j = 16 then .int .u8 kd else if j = 17 then .int .i64 kd else if j = 18 then .pointer (some ⟨X, 0, none⟩) else if j = 19 then .pointer (some ⟨X, 0, none⟩) else if j = 20 then .pointer (some ⟨X, 0, none⟩) else if j = 21 then .int .i32 pa else if j = 22 then .int .i64 pa else if j = 23 then .pointer (some ⟨X, 0, none⟩) else if j = 24 then .agg #[.int .i32 pa, .int .i32 ((pe : Int) - pa)] else if j = 25 then .int .i32 pe else if j = 26 then .int .i64 pe else if j = 27 then .pointer (some ⟨X, 2, none⟩) else if j = 28 then .int .u16 un else if j = 29 then .int .i64 un else if j = 30 then .pointer (some ⟨X, 4, none⟩) else if j = 31 then .int .u8 fl else if j = 32 then .int .u8 an else if j = 33 then .bool b else .agg #[.int .i64 kd, .int .i64 pa, .int .i64 pe, .int .i64 un, .bool b, .string ⟨#[]⟩], rfl, hKb2.size, hg2, hk2⟩
  · obtain rfl := List.mem_singleton.1 hi
    refine wpOp_step (o := _) rfl (fun K1 hK1 => ?_)
    rw [if_pos (by rfl)]
    go_simp
    have hKb1 : KeepA wb (wb.drew.alloc (.cells #[.int .i64 0, .int .i64 0, .int .i64 0, .int .i64 0, .bool false, .string ⟨#[]⟩] 28)) := ((Keep.refl (fun _ => False) wb).drew).alloc _
    refine hK1 _ _ ⟨hSK _ hKb1, ?_⟩
    have hG0 : (wb.drew.alloc (.cells #[.int .i64 0, .int .i64 0, .int .i64 0, .int .i64 0, .bool false, .string ⟨#[]⟩] 28)).heap[wb.heap.size]? = some (.cells #[.int .i64 0, .int .i64 0, .int .i64 0, .int .i64 0, .bool false, .string ⟨#[]⟩] 28 (0, 0)) := heap_alloc_new _ _
    refine wpAnyH_cast (f' := 4) (x' := #[true, true, true, true, true, true, true, true, true, true, false, false, true, true, true, true, true, true, true, false, true, false]) (a' := ⟨#[f 0, f 1, f 2, f 3, f 4, .pointer (some ⟨X, 0, none⟩), .pointer (some ⟨wb.heap.size, 0, none⟩), f 7, f 8, f 9, f 10, f 11, f 12, f 13, f 14, .pointer (some ⟨X, 3, none⟩), .int .u8 kd, .int .i64 kd, .pointer (some ⟨X, 0, none⟩), .pointer (some ⟨X, 0, none⟩), .pointer (some ⟨X, 0, none⟩), .int .i32 pa, .int .i64 pa, .pointer (some ⟨X, 0, none⟩), .agg #[.int .i32 pa, .int .i32 ((pe : Int) - pa)], f 25, f 26, .pointer (some ⟨X, 2, none⟩), .int .u16 un, .int .i64 un, .pointer (some ⟨X, 4, none⟩), .int .u8 fl, .int .u8 an, .bool b, f 34, f 35, f 36, f 37, f 38, f 39, f 40, f 41, f 42, f 43, f 44], []⟩) (by kernel_rfl) (by kernel_rfl) (by kernel_rfl) ?_
    refine wpAnyH_all (rs := [10]) (by kernel_rfl) (by decide) ?_
    intro i hi
    obtain rfl := List.mem_singleton.1 hi
    refine wpOp_step (o := _) rfl (fun K2 hK2' => ?_)
    rw [if_pos (by rfl)]
    go_simp
    go_at_call 24
    refine (End_at pa pe hpe _).mono ?_
    rintro e w2 ⟨rfl, hK2⟩
    have hKb2 : KeepA wb w2 := hKb1.trans hK2
    have hG := hK2.blk hG0 (fun x => x)
    refine hK2' _ _ ⟨hSK _ hKb2, ?_⟩
    refine wpAnyH_cast (f' := 3) (x' := #[true, true, true, true, true, true, true, true, true, true, true, false, true, true, true, true, true, true, true, false, true, false]) (a' := ⟨#[f 0, f 1, f 2, f 3, f 4, .pointer (some ⟨X, 0, none⟩), .pointer (some ⟨wb.heap.size, 0, none⟩), f 7, f 8, f 9, f 10, f 11, f 12, f 13, f 14, .pointer (some ⟨X, 3, none⟩), .int .u8 kd, .int .i64 kd, .pointer (some ⟨X, 0, none⟩), .pointer (some ⟨X, 0, none⟩), .pointer (some ⟨X, 0, none⟩), .int .i32 pa, .int .i64 pa, .pointer (some ⟨X, 0, none⟩), .agg #[.int .i32 pa, .int .i32 ((pe : Int) - pa)], .int .i32 pe, f 26, .pointer (some ⟨X, 2, none⟩), .int .u16 un, .int .i64 un, .pointer (some ⟨X, 4, none⟩), .int .u8 fl, .int .u8 an, .bool b, f 34, f 35, f 36, f 37, f 38, f 39, f 40, f 41, f 42, f 43, f 44], []⟩) (by kernel_rfl) (by kernel_rfl) (by kernel_rfl) ?_
    refine wpAnyH_take (i := 11) (oi := _) (v := .int .i64 pe) rfl (by kernel_rfl) (by kernel_rfl) (by kernel_rfl) (hQx _ _) (.inl ⟨by rfl, fun w' s1 => ?_⟩) (hSK _ hKb2) ?_
    · go_simp
    refine wpAnyH_take (i := 19) (oi := _) (v := .agg #[.int .i64 kd, .int .i64 pa, .int .i64 pe, .int .i64 un, .bool b, .string ⟨#[]⟩]) rfl (by kernel_rfl) (by kernel_rfl) (by kernel_rfl) (hQx _ _) (.inl ⟨by rfl, fun w' _ => by kernel_rfl⟩) (hSK _ hKb2) ?_
    refine wpAnyH_cast (f' := 1) (x' := #[true, true, true, true, true, true, true, true, true, true, true, true, true, true, true, true, true, true, true, true, true, false]) (a' := ⟨#[f 0, f 1, f 2, f 3, f 4, .pointer (some ⟨X, 0, none⟩), .pointer (some ⟨wb.heap.size, 0, none⟩), f 7, f 8, f 9, f 10, f 11, f 12, f 13, f 14, .pointer (some ⟨X, 3, none⟩), .int .u8 kd, .int .i64 kd, .pointer (some ⟨X, 0, none⟩), .pointer (some ⟨X, 0, none⟩), .pointer (some ⟨X, 0, none⟩), .int .i32 pa, .int .i64 pa, .pointer (some ⟨X, 0, none⟩), .agg #[.int .i32 pa, .int .i32 ((pe : Int) - pa)], .int .i32 pe, .int .i64 pe, .pointer (some ⟨X, 2, none⟩), .int .u16 un, .int .i64 un, .pointer (some ⟨X, 4, none⟩), .int .u8 fl, .int .u8 an, .bool b, .agg #[.int .i64 kd, .int .i64 pa, .int .i64 pe, .int .i64 un, .bool b, .string ⟨#[]⟩], f 35, f 36, f 37, f 38, f 39, f 40, f 41, f 42, f 43, f 44], []⟩) (by kernel_rfl) (by kernel_rfl) (by kernel_rfl) ?_
    refine wpAnyH_all (rs := [21]) (by kernel_rfl) (by decide) ?_
    intro i hi
    obtain rfl := List.mem_singleton.1 hi
    refine wpOp_step (o := _) rfl (fun K3 hK3 => ?_)
    rw [if_pos (by rfl)]
    refine wp_store_row 28 _ _ rfl wb.heap.size #[.int .i64 kd, .int .i64 pa, .int .i64 pe, .int .i64 un, .bool b, .string ⟨#[]⟩] rfl rfl 28 _ hG (by kernel_rfl) (by kernel_rfl) (by kernel_rfl) ?_
    have hg2 := setRow_heap _ wb.heap.size _ #[.int .i64 kd, .int .i64 pa, .int .i64 pe, .int .i64 un, .bool b, .string ⟨#[]⟩] _ _ hG
    have hk2 : KeepA wb _ := (Keep.setRowN (g := wb.heap.size) hKb2 (Nat.le_refl _) #[.int .i64 kd, .int .i64 pa, .int .i64 pe, .int .i64 un, .bool b, .string ⟨#[]⟩])
    refine hK3 _ _ ⟨hSK _ hk2, ?_⟩
    refine wpAnyH_done (by kernel_rfl) ?_ _
    exact ⟨rfl, wb.heap.size, fun j => if j = 15 then .pointer (some ⟨X, 3, none⟩) else if j = 16 then .int .u8 kd else if j = 17 then .int .i64 kd else if j = 18 then .pointer (some ⟨X, 0, none⟩) else if j = 19 then .pointer (some ⟨X, 0, none⟩) else if j = 20 then .pointer (some ⟨X, 0, none⟩) else if j = 21 then .int .i32 pa else if j = 22 then .int .i64 pa else if j = 23 then .pointer (some ⟨X, 0, none⟩) else if j = 24 then .agg #[.int .i32 pa, .int .i32 ((pe : Int) - pa)] else if j = 25 then .int .i32 pe else if j = 26 then .int .i64 pe else if j = 27 then .pointer (some ⟨X, 2, none⟩) else if j = 28 then .int .u16 un else if j = 29 then .int .i64 un else if j = 30 then .pointer (some ⟨X, 4, none⟩) else if j = 31 then .int .u8 fl else if j = 32 then .int .u8 an else if j = 33 then .bool b else .agg #[.int .i64 kd, .int .i64 pa, .int .i64 pe, .int .i64 un, .bool b, .string ⟨#[]⟩], rfl, Nat.le_refl _, hg2, hk2⟩
theorem t12_list (l : List Value) (d : Value) (n : Nat) : l = (List.range' n l.length).map (fun i => l.getD (i - n) d) := by
  refine List.ext_getElem (by simp) ?_
  intro i h1 h2
  simp only [List.getElem_map, List.getElem_range', Nat.one_mul, Nat.add_sub_cancel_left]
  rw [List.getD_eq_getElem?_getD, List.getElem?_eq_getElem h1]
  rfl
theorem t12_letters (g : Nat → Value) : (List.range' 0 45).map (fun i => g (i - 0)) = [g 0, g 1, g 2, g 3, g 4, g 5, g 6, g 7, g 8, g 9, g 10, g 11, g 12, g 13, g 14, g 15, g 16, g 17, g 18, g 19, g 20, g 21, g 22, g 23, g 24, g 25, g 26, g 27, g 28, g 29, g 30, g 31, g 32, g 33, g 34, g 35, g 36, g 37, g 38, g 39, g 40, g 41, g 42, g 43, g 44] := rfl
theorem t12_at (fl an : Int) (b : Bool) (hand : bits BinOp.and .u8 fl 1 = an) (hne : (an != 0) = b) (wb : World) (X : Nat) (t : Array Value) (ht : t.size = 45) (h5 : t.toList.getD 5 undef = .pointer (some ⟨X, 0, none⟩)) (kd un : Int) (pa pe : Nat) (hB : wb.heap[X]? = some (.cells #[.int .i32 pa, .int .i32 ((pe : Int) - pa), .int .u16 un, .int .u8 kd, .int .u8 fl] 60 (0, 0))) (hk : 0 ≤ kd ∧ kd < 256) (hu : 0 ≤ un ∧ un < 65536) (hpa : pa ≤ 1073741824) (hpe : pe ≤ 1073741824) :
    Code.wp Tryz.prog t12R5 (T12Q wb X (fun j => t.toList.getD j undef) kd un pa pe b) ⟨t, []⟩ wb := by
  obtain ⟨l⟩ := t
  have e := t12_list l undef 0
  rw [show l.length = 45 from ht, t12_letters (fun i => l.getD i undef)] at e
  have e2 := congrArg List.toArray e
  simp only at h5 e2
  rw [h5] at e2
  refine Eq.mp (congrArg (fun z => Code.wp Tryz.prog t12R5 (T12Q wb X (fun j => l.getD j undef) kd un pa pe b) ⟨z, []⟩ wb) e2.symm) ?_
  exact t12_region fl an b hand hne wb X (fun j => l.getD j undef) kd un pa pe hB hk hu hpa hpe
end Go.Proofs.YtedckphklebndaaGreatDoor
