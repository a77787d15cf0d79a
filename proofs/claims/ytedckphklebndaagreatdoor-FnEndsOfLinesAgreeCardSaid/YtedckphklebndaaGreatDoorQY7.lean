/- The package's Tokenize, walked. Conditions: a plain text of at most 2^19 bytes that is not left open; a new log; the tables of unicode/utf8 lie in blocks 0 and 1. -/
import Derived.Test.YtedckphklebndaaGreatDoorQGR26
import Derived.Laws.Cover3
namespace Go.Proofs.YtedckphklebndaaGreatDoor
open Go Go.RowKit
/-- The lexer's cells at the start. -/
def lex0 (k : LK) (X0 X1 X2 s X4 X5 X6 X7 : ByteArray) : List Value :=
  [.bool true] ++ k.val ++ [.string X0, .string X1, .string X2, .string s, .string X4, .string X5, .string X6, .string X7, .int .u8 0, .int .u32 0, .slice none 0 0, .slice none 0 0, .string ⟨#[]⟩, .int .i32 0, .int .i32 0, .string s, .string X0, .string X1, .int .i32 0, .int .i32 0, .int .i32 0, .int .i32 0, .bool true, .bool false, .bool true, .int .i64 0, .int .i64 0, .int .i32 0, .int .i32 0, .int .i32 0, .int .i32 0, .int .u16 0, .int .u8 0, .int .u8 0]
def srcA (X0 X1 X2 s X4 X5 X6 X7 : ByteArray) : Array Value := #[.string X0, .string X1, .string X2, .string s, .string X4, .string X5, .string X6, .string X7, .int .u8 0, .int .u32 0]
set_option maxRecDepth 100000 in
theorem tk_start {W T g : Nat} {k : LK} {w w2 : World} {s X0 X1 X2 X4 X5 X6 X7 : ByteArray} {l : List Int} (h : Sfx s l) (h0 : ps s l = 0) (hL : LA w w2 g s (fun j => (lex0 k X0 X1 X2 s X4 X5 X6 X7).getD j undef) 0 l) (hB : W ≤ w2.heap.size) (hlo : 2 ≤ W) (hW : W ≤ g ∧ W ≤ k.mu ∧ W ≤ k.he ∧ W ≤ k.ms) (hlog : LogB W k.kd k.mu k.he k.ms 0 (.slice none 0 0) w2) (hT : w2.heap[T]? = some (.cells res54 54 (0, 0))) :
    TS W T k w2 g s (fun j => (lex0 k X0 X1 X2 s X4 X5 X6 X7).getD j undef) 0 l l 0 (.slice none 0 0) (.slice none 0 0) [] [] 0 0 := by
  obtain ⟨a1, a2, a3, a4⟩ := hW
  have hc1 : ∀ j, j < 6 → (lex0 k X0 X1 X2 s X4 X5 X6 X7).getD (j + 1) undef = k.val.getD j undef := by
    intro j hj
    match j, hj with
    | 0, _ => rfl
    | 1, _ => rfl
    | 2, _ => rfl
    | 3, _ => rfl
    | 4, _ => rfl
    | 5, _ => rfl
  have hTR : TR s (fun j => (lex0 k X0 X1 X2 s X4 X5 X6 X7).getD j undef) l :=
    ⟨⟨h, rfl, ⟨_, rfl⟩, ⟨_, rfl⟩, ⟨0, Nat.zero_le _, rfl⟩, ⟨0, Nat.zero_le _, rfl⟩, ⟨0, false, rfl, rfl, fun e => by cases e⟩, rfl, rfl⟩, by rw [h0]; rfl⟩
  have hQ : LQ (fun _ => True) W k w2 w2 g s (fun j => (lex0 k X0 X1 X2 s X4 X5 X6 X7).getD j undef) 0 l l 0 :=
    { la := hL.now, kp := Keep.refl _ _, new := fun _ _ => trivial, sg := trivial, hB := hB, lo := ⟨hlo, by omega, by omega, by omega⟩, tr := hTR, c0 := ⟨rfl, rfl, rfl, rfl⟩, c1 := hc1,
      log := ⟨_, hlog, trivial, trivial, trivial, fun _ _ => trivial⟩, all := ⟨0, [], World.ownsRow_nil _ _ _ _, Nat.le_refl _, fun _ _ => trivial⟩, leg := ⟨0, [], World.ownsRow_nil _ _ _ _, Nat.le_refl _, fun _ _ => trivial, fun _ e => by cases e⟩ }
  exact ⟨⟨hQ, Nat.zero_le _, List.suffix_refl _, ⟨0, rfl⟩⟩, World.ownsRow_nil _ _ _ _, World.ownsRow_nil _ _ _ _, fun _ e => (by cases e), ⟨a1, a2, a3, a4⟩, hT⟩
/-- The row of legal comments. -/
theorem TS.legc {W T : Nat} {k : LK} {w : World} {g : Nat} {s : ByteArray} {r : Nat → Value} {st : Nat} {l lt : List Int} {q : Nat} {v8 v9 : Value} {x8 x9 : List Value} {n8 n9 g2 n cap : Nat} (h : TS W T k w g s r st l lt q v8 v9 x8 x9 n8 n9) (e : r 18 = .slice (some ⟨g2, 0, none⟩) n cap) :
    n ≤ s.size ∧ ∀ j, j < n → ∃ m0 m1 m2, w.cell? ⟨g2, j * 3, none⟩ = some m0 ∧ w.cell? ⟨g2, j * 3 + 1, none⟩ = some m1 ∧ w.cell? ⟨g2, j * 3 + 2, none⟩ = some m2 ∧ m0.oneCell' = true ∧ m1.oneCell' = true ∧ m2.oneCell' = true := by
  obtain ⟨n2, y2, o2, mq, _, sc⟩ := h.nq.lq.leg
  have hq := h.nq.hq
  have hle := ps_le s l
  rcases o2.2 with ⟨e2, _⟩ | ⟨g', cap', cur, e2, hb, hg, hc, hm, hs, ht⟩
  · rw [e] at e2; cases e2
  · rw [e] at e2
    injection e2 with e3 e4 e5
    injection e3 with e3
    injection e3 with e3
    subst e3 e4 e5
    refine ⟨by omega, fun j hj => ?_⟩
    have hl := o2.1
    have key : ∀ i, i < 3 → ∃ m, w.cell? ⟨g2, j * 3 + i, none⟩ = some m ∧ m.oneCell' = true := by
      intro i hi
      have hlt : j * 3 + i < y2.length := by omega
      refine ⟨y2[j * 3 + i], ?_, sc _ (List.getElem_mem hlt)⟩
      refine (blk_cell hg (j * 3 + i)).trans ?_
      rw [← List.getElem?_eq_getElem hlt, ← ht, List.getElem?_take_of_lt (by omega)]
      simp
    obtain ⟨m0, a0, b0⟩ := key 0 (by decide)
    obtain ⟨m1, a1, b1⟩ := key 1 (by decide)
    obtain ⟨m2, a2, b2⟩ := key 2 (by decide)
    exact ⟨m0, m1, m2, a0, a1, a2, b0, b1, b2⟩
/-- The loop over the legal comments. -/
def LG (W T : Nat) (k : LK) (w0 : World) (g : Nat) (s : ByteArray) (r : Nat → Value) (st : Nat) (l lt : List Int) (q : Nat) (v8 : Value) (x8 : List Value) (n8 n m0 : Nat) (nm : Nat) (a i : Value) (w : World) : Prop :=
  ∃ (j n9 : Nat) (x9 : List Value), i = .int .i64 (j : Nat) ∧ n = nm - j ∧ j ≤ nm ∧ n9 ≤ m0 + j ∧ TS W T k w g s r st l lt q v8 a x8 x9 n8 n9 ∧ Below W w0 w
theorem LG.push {W T : Nat} {k : LK} {w0 w wa w3 : World} {g : Nat} {s : ByteArray} {r : Nat → Value} {st : Nat} {l lt : List Int} {q : Nat} {v8 v9 v' : Value} {x8 x9 x' : List Value} {n8 n9 m0 nm j : Nat} (h : TS W T k w g s r st l lt q v8 v9 x8 x9 n8 n9) (hj : j < nm) (hn : n9 ≤ m0 + j) (hb : Below W w0 w) (ha : KeepA w wa) (hg : wa.grownBy w3 v9.ownBlock) (ho : w3.ownsRow W 122 3 v' (n9 + 1) x') (hat : ∀ j, v'.ownBlock = some j → v9.ownBlock = some j ∨ wa.heap.size ≤ j) (hW : W ≤ w.heap.size) :
    LG W T k w0 g s r st l lt q v8 x8 n8 (nm - (j + 1)) m0 nm v' (.int .i64 ((j : Int) + 1)) w3 := by
  have h2 := h.keep ha
  refine ⟨j + 1, n9 + 1, x', by simp, rfl, by omega, by omega, h2.grow9 hg ho hat, (hb.trans (ha.below hW (fun _ _ e => e.elim))).trans ?_⟩
  exact (Keep.of_grown hg (fun k => v9.ownBlock = some k) (fun k e => e)).below (Nat.le_trans hW ha.size) (fun k _ e => (h2.r9.lt k e).1)
theorem cells_one {v : Value} (h : v.oneCell' = true) : v.cells = #[v] := by cases v <;> first | rfl | cases h
theorem all7 {d e f : Value} (h4 : d.oneCell' = true) (h5 : e.oneCell' = true) (h6 : f.oneCell' = true) (p8 p9 p17 : Option Addr) (n8 n9 n17 c8 c9 c17 : Nat) (x : Int) : (#[.slice p8 n8 c8, .slice p17 n17 c17, .slice p9 n9 c9, d, e, f, Value.int .i32 x] : Array Value).all (·.oneCell') = true := by
  have h1 : (Value.slice p8 n8 c8).oneCell' = true := rfl
  have h2 : (Value.slice p17 n17 c17).oneCell' = true := rfl
  have h3 : (Value.slice p9 n9 c9).oneCell' = true := rfl
  have h7 : (Value.int .i32 x).oneCell' = true := rfl
  simp [h1, h2, h3, h4, h5, h6, h7]
theorem all3 {a b c : Value} (h1 : a.oneCell' = true) (h2 : b.oneCell' = true) (h3 : c.oneCell' = true) : (#[a, b, c] : Array Value).all (·.oneCell') = true := by simp [h1, h2, h3]
theorem all3l {a b : Value} (h1 : a.oneCell' = true) (h2 : b.oneCell' = true) (x : Int) : ∀ u ∈ [a, b, Value.int .u32 x], u.oneCell' = true := by
  intro u hu
  simp only [List.mem_cons, List.not_mem_nil, or_false] at hu
  rcases hu with rfl | rfl | rfl
  · exact h1
  · exact h2
  · rfl
theorem Keep.setCellN {w w1 : World} {g i : Nat} (h : KeepA w w1) (hg : w.heap.size ≤ g) (v : Value) : KeepA w (w1.setCell ⟨g, i, none⟩ v) := by
  have k : Keep (fun j => j = g) w1 (w1.setCell ⟨g, i, none⟩ v) := (Keep.refl (fun j => j = g) w1).setCell (p := ⟨g, i, none⟩) (fun _ => rfl) v
  exact ⟨k.os.trans h.os, k.tape.trans h.tape, k.output.trans h.output, Nat.le_trans h.size k.size, fun j hj hn => (k.block j (Nat.lt_of_lt_of_le hj h.size) (by omega)).trans (h.block j hj hn)⟩
theorem lg_at {gg H cap m n c i : Nat} {p : Option Addr} {wq : World} (e : (Value.slice (some ⟨gg, 0, none⟩) m cap).ownBlock = some i) (h : (Value.slice p n c).ownBlock = some gg ∨ gg = H + 1) (hH : wq.heap.size ≤ H + 1 := by simp) : (Value.slice p n c).ownBlock = some i ∨ wq.heap.size ≤ i := by
  simp only [Value.ownBlock, Option.some.injEq] at e
  subst e
  rcases h with h | h
  · exact .inl h
  · exact .inr (by omega)
theorem TL.push {W T : Nat} {k : LK} {w0 w1 : World} {g : Nat} {s : ByteArray} {l l' : List Int} {r1 : Nat → Value} {lt1 : List Int} {q1 : Nat} {v8 v9 : Value} {x9 : List Value} {n9 : Nat} {dn : List ((Tok × List Int × List Int) × Int)} {fl : Int} (hne : (cmtsF l').1 ≠ [])
    (h : TS W T k w1 g s r1 (ps s (cmtsF (endF (cmtsF l').1)).1) (endF (cmtsF (endF (cmtsF l').1)).1) lt1 q1 v8 v9 (dn.flatMap (lxC s) ++ lxC s (((nextF (cmtsF l').1).1, (cmtsF l').1, endF (cmtsF l').1), fl)) x9 (dn.length + 1) n9) (hT : TokC r1 (nextF (cmtsF (endF (cmtsF l').1)).1).1) (hFL : ∀ p ∈ dn, FL p) (hfl : (fl = 0 ∨ fl = 1 ∨ fl = 2) ∧ (fl = 1 ↔ (nextF (cmtsF l').1).1.id = true)) (hdn : dn.map Prod.fst ++ ptoks l' = ptoks l) (ho : (toks l').2 = false) (hn9 : n9 ≤ (dn.length + 1) * 524288) (hll : dn.length + l'.length ≤ l.length) (hb : Below W w0 w1) :
    TL W T k w0 g s l (endF (cmtsF l').1).length v8 v9 w1 := by
  have hlt : (endF (cmtsF l').1).length < l'.length := Nat.lt_of_lt_of_le (endF_lt hne) (cmtsF_le l')
  refine ⟨endF (cmtsF l').1, r1, lt1, q1, dn ++ [(((nextF (cmtsF l').1).1, (cmtsF l').1, endF (cmtsF l').1), fl)], x9, n9, rfl, ?_, hT, ?_, ?_, toks_endF ho hne, ?_, ?_, hb⟩
  · rw [List.flatMap_append, List.length_append]
    simpa using h
  · intro p hp
    rcases List.mem_append.1 hp with hp | hp
    · exact hFL p hp
    · rw [List.mem_singleton.1 hp]; exact hfl
  · rw [ptoks_cons hne] at hdn
    rw [← hdn]; simp
  · rw [List.length_append]; exact hn9
  · rw [List.length_append]; simp only [List.length_singleton]; omega
theorem tk_row {W T : Nat} {k : LK} {w : World} {g : Nat} {s : ByteArray} {r : Nat → Value} {st : Nat} {l lt : List Int} {q : Nat} {v8 v9 : Value} {x8 x9 : List Value} {n8 n9 : Nat} (h : TS W T k w g s r st l lt q v8 v9 x8 x9 n8 n9) (hT : W ≤ T) (cs : Array Value) :
    (w.setRow T cs).heap[T]? = some (.cells cs 54 (0, 0)) ∧ (w.setRow T cs).ownsRow W 60 5 v8 n8 x8 ∧ Below W w (w.setRow T cs) := by
  have hk : Keep (fun j => j = T) w (w.setRow T cs) := ⟨rfl, rfl, rfl, by simp [World.setRow], fun j _ hn => setRow_other _ _ _ _ hn⟩
  exact ⟨setRow_heap _ _ _ _ _ _ h.rc, hk.own h.r8 (fun j e1 e2 => own_ne h.r8 h.rc (by decide) (by rw [e1, e2])), hk.below h.nq.lq.hB (fun j _ e => by rw [e]; exact hT)⟩
theorem tk_kind {l' : List Int} {r : Nat → Value} (h : TokC r (nextF (cmtsF l').1).1) : ∃ kd : Int, r 39 = .int .u8 kd ∧ (kd ≠ 0 ↔ (cmtsF l').1 ≠ []) := by
  refine ⟨_, h.1, ?_⟩
  constructor
  · intro h1 h2
    rw [h2] at h1
    exact h1 (by decide)
  · exact nextF_kind
set_option maxRecDepth 100000 in
set_option maxHeartbeats 8000000 in
theorem tokenize_calls {W : Nat} {k : LK} {w : World} {s X0 X1 X2 X4 X5 X6 X7 : ByteArray} {l : List Int} (h : Sfx s l) (h0 : ps s l = 0) (hs : s.size ≤ 524288) (hbom : hd l ≠ 65279) (ho : (toks l).2 = false) (hlog : LogB W k.kd k.mu k.he k.ms 0 (.slice none 0 0) w) (hlo : 2 ≤ W) (hWw : W ≤ w.heap.size) (hW : W ≤ k.mu ∧ W ≤ k.he ∧ W ≤ k.ms) (htab : Lib.Utf8Tabs 0 1 w) :
    Calls Tryz.prog 32 #[.agg k.val.toArray, .agg (srcA X0 X1 X2 s X4 X5 X6 X7), .agg #[.bool true]] w (TkE W w s l) := by
  unfold srcA
  simp only [LK.val, logA]
  go_enter Tryz.func32, Tryz.ntmps32
  go_upto_region 1 with (fail)
  generalize hwb : (((w.alloc _).alloc _).alloc _).alloc _ = wb
  have hbL : wb.heap[w.heap.size]? = some (.cells #[.func (.func 48) #[] #[.pointer (some ⟨k.kd, 0, none⟩), .pointer (some ⟨k.mu, 0, none⟩), .pointer (some ⟨k.he, 0, none⟩), .pointer (some ⟨k.ms, 0, none⟩)], .func (.func 51) #[] #[.pointer (some ⟨k.mu, 0, none⟩), .pointer (some ⟨k.he, 0, none⟩)], .func (.func 52) #[] #[.pointer (some ⟨k.mu, 0, none⟩), .pointer (some ⟨k.ms, 0, none⟩)], .func (.func 53) #[] #[.pointer (some ⟨k.mu, 0, none⟩), .pointer (some ⟨k.ms, 0, none⟩)], .int .i8 3, .map none] 75 (0, 0)) := by
    rw [← hwb]; exact alloc_old _ (alloc_old _ (alloc_old _ (alloc_at _ rfl)))
  have hbS : wb.heap[w.heap.size + 1]? = some (.cells #[.string X0, .string X1, .string X2, .string s, .string X4, .string X5, .string X6, .string X7, .int .u8 0, .int .u32 0] 88 (0, 0)) := by
    rw [← hwb]; exact alloc_old _ (alloc_old _ (alloc_at _ (by simp)))
  have hbO : wb.heap[w.heap.size + 2]? = some (.cells #[.bool true] 90 (0, 0)) := by
    rw [← hwb]; exact alloc_old _ (alloc_at _ (by simp))
  have hbT : wb.heap[w.heap.size + 3]? = some (.cells #[.slice none 0 0, .slice none 0 0, .slice none 0 0, .string ⟨#[]⟩, .int .i32 0, .int .i32 0, .int .i32 0] 54 (0, 0)) := by
    rw [← hwb]; exact alloc_at _ (by simp)
  have hbz : wb.heap.size = w.heap.size + 4 := by rw [← hwb]; simp
  have hbK : KeepA w wb := by rw [← hwb]; exact ((((Keep.refl _ _).alloc _).alloc _).alloc _).alloc _
  clear hwb
  refine wp_mono (tk_region w.heap.size wb _ _ _ _ _ _ _ _ X0 X1 X2 s X4 X5 X6 X7 hbL hbS hbO (by omega)) ?_
  rintro e a w1 ⟨rfl, g, f, rfl, hg, hL, hK1⟩
  have hLB : LB w1 w1 g s (fun j => (lex0 k X0 X1 X2 s X4 X5 X6 X7).getD j undef) 0 l :=
    ⟨⟨0, 0, 0, Int.le_refl _, by omega, by rw [h0]; exact hL⟩, h, Keep.refl _ _, by omega, tabs_keep htab (hbK.trans hK1) (fun e => e) (fun e => e), by omega, Nat.zero_le _⟩
  have hlog1 : LogB W k.kd k.mu k.he k.ms 0 (.slice none 0 0) w1 := hlog.keep (hbK.trans hK1) (fun e => e) (fun e => e) (fun e => e) (fun e => e) (fun _ _ e => e)
  have hbT1 := hK1.blk hbT (fun e => e)
  have hbel1 : Below W w w1 := (hbK.trans hK1).below hWw (fun _ _ e => e.elim)
  have hsz1 : wb.heap.size ≤ w1.heap.size := hK1.size
  have hWg : W ≤ g ∧ W ≤ k.mu ∧ W ≤ k.he ∧ W ≤ k.ms := ⟨by omega, hW⟩
  generalize hT : w.heap.size + 3 = T at hbT1 hg ⊢
  have hTW : W ≤ T := by omega
  go_upto_block 1 with (fail)
  refine (step_lb hLB).mono ?_
  rintro e w2 ⟨rfl, hA⟩
  have hTS := tk_start (W := W) (k := k) (w := w1) (s := s) (l := l) h h0 hA (by have := hA.kp.size; omega) hlo hWg (hlog1.keep hA.kp (blk_ne hlog1.hkd hL (by decide)) (blk_ne hlog1.hmu hL (by decide)) (by obtain ⟨b, hb⟩ := hlog1.hhe; exact blk_ne hb hL (by decide)) (blk_ne hlog1.hms hL (by decide)) (fun _ e => by cases e)) (hA.kp.blk hbT1 (by omega))
  have hbel2 : Below W w w2 := hbel1.trans (hA.kp.below (by omega) (fun _ _ e => by omega))
  have c35 := hA.c35
  have k35 : (hd l == (65279 : Int)) = false := by simpa using hbom
  generalize (fun j => (lex0 k X0 X1 X2 s X4 X5 X6 X7).getD j undef) = r0 at hTS
  clear hbL hbS hbO hbT hbK hlog hL hK1 hlog1 hbT1 hbel1 hsz1 hLB hA
  go_wp2_with (go_at_call 57; refine (next_calls hTS.to ho).mono ?_; rintro e w3 ⟨rfl, r1, lt1, q1, hN, hTok⟩)
  obtain ⟨hTS3, hbel3⟩ := hTS.after hN
  clear hN hTS c35 k35
  go_wp2_with fail
  go_loopg [8, 9] l.length (fun n a b wr => TL W T k w g s l n a b wr)
  case atStart => exact ⟨l, r1, lt1, q1, [], [], 0, rfl, hTS3, hTok, fun _ e => (by cases e), rfl, ho, Nat.le_refl _, by simp, hbel2.trans hbel3⟩
  case round =>
    obtain ⟨l', r, lt, q, dn, x9, n9, hn, hTS', hTok', hFL, hdn, ho', hn9, hll, hbelr⟩ := hrel
    obtain ⟨kd, hkd, hkd2⟩ := tk_kind hTok'
    have HN := Lib.hid hn
    have HFL := Lib.hid hFL
    have HDN := Lib.hid hdn
    have HOP := Lib.hid ho'
    have HTK := Lib.hid hTok'
    have HN9 := Lib.hid hn9
    have HLL := Lib.hid hll
    clear hn hFL hdn ho' hTok' hn9 hll
    have hWr : W ≤ wr.heap.size := hTS'.nq.lq.hB
    have hll2 : dn.length + l'.length ≤ 524288 := by
      have := HLL.out
      have := Nat.le_trans (encs_len l) h.fits
      omega
    have hdn3 : n9 ≤ 524288 * 524288 := Nat.le_trans HN9.out (Nat.mul_le_mul_right _ (by omega))
    obtain ⟨nl0, _, _, hLr⟩ := hTS'.nq.lq.la.lx
    obtain ⟨p8, cp8, rfl⟩ := own_slice hTS'.r8
    obtain ⟨p9, cp9, rfl⟩ := own_slice hTS'.r9
    obtain ⟨p17, n17, cp17, e17⟩ : ∃ p n c, r 17 = .slice p n c := by
      obtain ⟨n, _, o, _⟩ := hTS'.nq.lq.all
      obtain ⟨p, c, e⟩ := own_slice o
      exact ⟨p, n, c, e⟩
    have c39 : wr.cell? ⟨g, 39, none⟩ = some (.int .u8 kd) := ((blk_cell hLr 39).trans rfl).trans (congrArg some hkd)
    have c18 : wr.cell? ⟨g, 18, none⟩ = some (r 18) := (blk_cell hLr 18).trans rfl
    have hu46 : Tryz.prog.underlying 46 = some (.slice 122) := Tryz.underlying46
    by_cases hk0 : kd = 0
    · have k39 : (kd != 0) = false := by simpa using hk0
      rcases hTS'.nq.lq.leg with ⟨n18, x18, o18, m18, _, _⟩
      rcases o18.2 with ⟨e18, _⟩ | ⟨g2, cap2, cur2, e18, hb2, hg2, hcp2, _, _, _⟩
      · rw [e18] at c18
        obtain ⟨nl, hnl0, hnl1, hLe⟩ := hTS'.nq.lq.la.lx
        have hnl2 : nl < 2147483647 := by have := ps_le s (endF (cmtsF l').1).tail; omega
        have hsp : (r 19).oneCell' = true ∧ (r 20).oneCell' = true ∧ (r 21).oneCell' = true := hTS'.nq.lq.c0.2
        have one19 := hsp.1
        have one20 := hsp.2.1
        have one21 := hsp.2.2
        clear hsp
        have c17 : wr.cell? ⟨g, 17, none⟩ = some (.slice p17 n17 cp17) := ((blk_cell hLe 17).trans rfl).trans (congrArg some e17)
        have c32 : wr.cell? ⟨g, 32, none⟩ = some (.int .i64 nl) := (blk_cell hLe 32).trans rfl
        have c19 : wr.cell? ⟨g, 19, none⟩ = some (r 19) := (blk_cell hLe 19).trans rfl
        have c20 : wr.cell? ⟨g, 20, none⟩ = some (r 20) := (blk_cell hLe 20).trans rfl
        have c21 : wr.cell? ⟨g, 21, none⟩ = some (r 21) := (blk_cell hLe 21).trans rfl
        have hrc := hTS'.rc
        have hnl3 : (0 : Int) ≤ nl + 1 := by omega
        have hnl4 : nl + 1 ≤ 2147483647 := by omega
        have hcm : (cmtsF l').1 = [] := by
          by_cases e : (cmtsF l').1 = []
          · exact e
          · exact absurd hk0 (hkd2.2 e)
        have HEN := Lib.hid (TL.end_ hcm dn HDN.out)
        generalize r 19 = q19 at c19 one19
        generalize r 20 = q20 at c20 one20
        generalize r 21 = q21 at c21 one21
        clear hk0 hkd2 hkd
        go_wp2_with (refine wpList_store_row rfl 54 _ _ rfl T #[.slice p8 dn.length cp8, .slice p17 n17 cp17, .slice p9 n9 cp9, q19, q20, q21, .int .i32 _] rfl rfl 54 res54 hrc (by kernel_rfl) rfl (all7 one19 one20 one21 _ _ _ _ _ _ _ _ _ _) ?_)
        obtain ⟨hrow, hown, hbel9⟩ := tk_row hTS' hTW #[.slice p8 dn.length cp8, .slice p17 n17 cp17, .slice p9 n9 cp9, q19, q20, q21, .int .i32 (nl + 1)]
        refine bodyPost_ret (v := .agg #[.slice p8 dn.length cp8, .slice p17 n17 cp17, .slice p9 n9 cp9, q19, q20, q21, .int .i32 (nl + 1)]) (by simp [results, Tryz.results32, go_sem, blk_cell hrow]) rfl ?_
        exact ⟨dn, _, _, _, _, _, _, _, rfl, all7 one19 one20 one21 _ _ _ _ _ _ _ _ _ _, hown, HFL.out, HEN.out, hbelr.trans hbel9⟩
      · rw [e18] at c18
        go_wp2_with fail
        go_loopg [9, 61] n18 (fun n a i wq => LG W T k wr g s r (ps s (cmtsF l').1) (endF (cmtsF l').1) lt q (.slice p8 dn.length cp8) (dn.flatMap (lxC s)) dn.length n n9 n18 a i wq)
        case atStart => exact ⟨0, n9, x9, rfl, rfl, Nat.zero_le _, Nat.le_refl _, hTS', Below.refl _ _⟩
        case round =>
          obtain ⟨j, nj, xj, rfl, hnj, hj, hnn, hTSj, hbelj⟩ := hrel
          have HNJ := Lib.hid hnj
          clear hnj
          obtain ⟨pj, cpj, rfl⟩ := own_slice hTSj.r9
          have hWj : W ≤ wr.heap.size := hTSj.nq.lq.hB
          by_cases hlt : j < n18
          · obtain ⟨m0, m1, m2, y0, y1, y2, o0, o1, o2⟩ := (hTSj.legc e18).2 j hlt
            have hj1 : (j : Int) < n18 := by omega
            have hj2 : (0 : Int) ≤ j := by omega
            go_upto_region 23 with (refine wpList_store_row rfl 122 _ _ rfl _ #[m0, m1, m2] rfl rfl 122 _ (heap_alloc_new _ _) (by kernel_rfl) rfl (all3 o0 o1 o2) ?_)
            have hB1 : (wr.alloc (.cells #[.string ⟨#[]⟩, .int .i32 0, .int .u32 0] 122)).heap[wr.heap.size]? = some (.cells #[.string ⟨#[]⟩, .int .i32 0, .int .u32 0] 122 (0, 0)) := heap_alloc_new _ _
            have hB2 := setRow_heap _ wr.heap.size _ #[m0, m1, m2] _ _ hB1
            have hKb : KeepA wr ((wr.alloc (.cells #[.string ⟨#[]⟩, .int .i32 0, .int .u32 0] 122)).setRow wr.heap.size #[m0, m1, m2]) := Keep.setRowN ((Keep.refl _ _).alloc _) (Nat.le_refl _) _
            obtain ⟨X, hXe⟩ : ∃ x, wr.heap.size = x := ⟨_, rfl⟩
            rw [hXe] at hB2 hKb ⊢
            have hXn : wr.heap.size ≤ X := Nat.le_of_eq hXe
            obtain ⟨wb, hwb⟩ : ∃ x, ((wr.alloc (.cells #[.string ⟨#[]⟩, .int .i32 0, .int .u32 0] 122)).setRow X #[m0, m1, m2]) = x := ⟨_, rfl⟩
            rw [hwb] at hB2 hKb ⊢
            clear hwb hB1 y0 y1 y2
            have z2 : wb.cell? ⟨X, 2, none⟩ = some m2 := (blk_cell hB2 2).trans rfl
            have zf : wb.frozen? ⟨X, 2, none⟩ = false := blk_frozen hB2 2
            have hcv : IntKind.u32.wrap (dn.length : Int) = dn.length := by rw [IntKind.wrap_u32]; omega
            clear hXe hj1 hj2
            change Code.wp Tryz.prog _ _ ⟨_, _⟩ wb
            go_upto_region 24 with (fail)
            have hB3 : (wb.setCell ⟨X, 2, none⟩ (.int .u32 dn.length)).heap[X]? = some (.cells #[m0, m1, .int .u32 dn.length] 122 (0, 0)) := (blk_set hB2 2 _).trans rfl
            have hKc : KeepA wr (wb.setCell ⟨X, 2, none⟩ (.int .u32 dn.length)) := hKb.setCellN hXn _
            obtain ⟨wc, hwc⟩ : ∃ x, (wb.setCell ⟨X, 2, none⟩ (.int .u32 dn.length)) = x := ⟨_, rfl⟩
            rw [hwc] at hB3 hKc ⊢
            clear hwc hB2 hKb z2 zf hcv
            have v0 : wc.cell? ⟨X, 0, none⟩ = some m0 := (blk_cell hB3 0).trans rfl
            have v1 : wc.cell? ⟨X, 1, none⟩ = some m1 := (blk_cell hB3 1).trans rfl
            have v2 : wc.cell? ⟨X, 2, none⟩ = some (.int .u32 dn.length) := (blk_cell hB3 2).trans rfl
            obtain ⟨i0, hi0, hz0, hz1, hz2⟩ := info_parts info122
            have hown := (hTSj.keep hKc).r9
            have hle18 := (hTSj.legc e18).1
            have hnb : nj ≤ 1000000000000 := by omega
            have hWc : W ≤ wc.heap.size := Nat.le_trans hWj hKc.size
            go_wp2_with (at_builtin; refine wpList_append_lies _ rfl _ _ 46 rfl W 122 i0 _ 3 24 Tryz.underlying46 hi0 hz0 hz1 hz2 rfl (by decide) (.slice pj nj cpj) nj xj rfl (hown.alloc _) ⟨wc.heap.size, 0, none⟩ 1 1 [m0, m1, .int .u32 dn.length] rfl rfl (World.news_of_block (cs := #[m0, m1, .int .u32 dn.length]) (t := 122) (fr := (0, 0)) (heap_alloc_new wc _)) (all3l o0 o1 _) (by decide) (by unfold maxLen; omega) (by omega) (by simp; omega) (wc.heap.size + 1) (by simp) ?_; intro gg cap3 w4 hown3 hgrow hat hlt3; have HO3 := Lib.hid hown3; have HG3 := Lib.hid hgrow; have HA3 := Lib.hid hat; clear hown3 hgrow hat)
            go_roundg (n18 - (j + 1))
            case measure => have := HNJ.out; omega
            case rel => exact LG.push hTSj hlt hnn hbelj (hKc.alloc _) HG3.out HO3.out (fun i e => lg_at e HA3.out) hWj
          · have hj1 : ¬ (j : Int) < n18 := by omega
            obtain ⟨nlj, _, _, hLj⟩ := hTSj.nq.lq.la.lx
            have g18 : wr.cell? ⟨g, 18, none⟩ = some (.slice (some ⟨g2, 0, none⟩) n18 cap2) := ((blk_cell hLj 18).trans rfl).trans (congrArg some e18)
            have f18 : wr.frozen? ⟨g, 18, none⟩ = false := blk_frozen hLj 18
            have hTSz := hTSj.nil18
            have hKz : KeepB g wr (wr.setCell ⟨g, 18, none⟩ (.slice none 0 0)) := (Keep.refl (fun j => j = g) wr).setCell (p := ⟨g, 18, none⟩) (fun _ => rfl) _
            have hbelz := (hbelr.trans hbelj).trans (hKz.below hWj (fun _ _ e => by omega))
            have hn9z : nj ≤ (dn.length + 1) * 524288 := by
              have := HN9.out
              have := (hTSj.legc e18).1
              omega
            go_upto_region 27 with (fail)
            obtain ⟨wz, hwz⟩ : ∃ x, (wr.setCell ⟨g, 18, none⟩ (.slice none 0 0)) = x := ⟨_, rfl⟩
            rw [hwz] at hTSz hbelz ⊢
            clear hwz hKz g18 f18 hLj hbelj
            have e17z : up r 18 (.slice none 0 0) 17 = .slice p17 n17 cp17 := by rw [up_other (by decide)]; exact e17
            have HTZ : TokC (up r 18 (.slice none 0 0)) (nextF (cmtsF l').1).1 := by
              obtain ⟨t1, t2, fl, t3, t4⟩ := HTK.out
              exact ⟨by rw [up_other (by decide)]; exact t1, by rw [up_other (by decide)]; exact t2, fl, by rw [up_other (by decide)]; exact t3, t4⟩
            generalize up r 18 (.slice none 0 0) = rz at hTSz e17z HTZ
            obtain ⟨nl, hnl0, hnl1, hLe⟩ := hTSz.nq.lq.la.lx
            have hnl2 : nl < 2147483647 := by have := ps_le s (endF (cmtsF l').1).tail; omega
            have hsp : (rz 19).oneCell' = true ∧ (rz 20).oneCell' = true ∧ (rz 21).oneCell' = true := hTSz.nq.lq.c0.2
            have one19 := hsp.1
            have one20 := hsp.2.1
            have one21 := hsp.2.2
            clear hsp
            have c17 : wz.cell? ⟨g, 17, none⟩ = some (.slice p17 n17 cp17) := ((blk_cell hLe 17).trans rfl).trans (congrArg some e17z)
            have c32 : wz.cell? ⟨g, 32, none⟩ = some (.int .i64 nl) := (blk_cell hLe 32).trans rfl
            have c19 : wz.cell? ⟨g, 19, none⟩ = some (rz 19) := (blk_cell hLe 19).trans rfl
            have c20 : wz.cell? ⟨g, 20, none⟩ = some (rz 20) := (blk_cell hLe 20).trans rfl
            have c21 : wz.cell? ⟨g, 21, none⟩ = some (rz 21) := (blk_cell hLe 21).trans rfl
            have hrc := hTSz.rc
            have hnl3 : (0 : Int) ≤ nl + 1 := by omega
            have hnl4 : nl + 1 ≤ 2147483647 := by omega
            have hcm : (cmtsF l').1 = [] := by
              by_cases e : (cmtsF l').1 = []
              · exact e
              · exact absurd hk0 (hkd2.2 e)
            have HEN := Lib.hid (TL.end_ hcm dn HDN.out)
            generalize rz 19 = q19 at c19 one19
            generalize rz 20 = q20 at c20 one20
            generalize rz 21 = q21 at c21 one21
            clear hk0 hkd2 hkd
            go_wp2_with (refine wpList_store_row rfl 54 _ _ rfl T #[.slice p8 dn.length cp8, .slice p17 n17 cp17, .slice pj nj cpj, q19, q20, q21, .int .i32 _] rfl rfl 54 res54 hrc (by kernel_rfl) rfl (all7 one19 one20 one21 _ _ _ _ _ _ _ _ _ _) ?_)
            obtain ⟨hrow, hown, hbel9⟩ := tk_row hTSz hTW #[.slice p8 dn.length cp8, .slice p17 n17 cp17, .slice pj nj cpj, q19, q20, q21, .int .i32 (nl + 1)]
            refine bodyPost_ret (v := .agg #[.slice p8 dn.length cp8, .slice p17 n17 cp17, .slice pj nj cpj, q19, q20, q21, .int .i32 (nl + 1)]) (by simp [results, Tryz.results32, go_sem, blk_cell hrow]) rfl ?_
            exact ⟨dn, _, _, _, _, _, _, _, rfl, all7 one19 one20 one21 _ _ _ _ _ _ _ _ _ _, hown, HFL.out, HEN.out, hbelz.trans hbel9⟩
    · have k39 : (kd != 0) = true := by simpa using hk0
      rcases hTS'.nq.lq.leg with ⟨n18, x18, o18, m18, _, _⟩
      rcases o18.2 with ⟨e18, _⟩ | ⟨g2, cap2, cur2, e18, hb2, hg2, hcp2, _, _, _⟩
      · rw [e18] at c18
        go_upto_region 17 with (fail)
        obtain ⟨nl, hnl0, hnl1, hLe⟩ := hTS'.nq.lq.la.lx
        obtain ⟨t1, t2, fl, t3, t4, t5⟩ := HTK.out
        obtain rfl : kd = (nextF (cmtsF l').1).1.kind := by
          have e := hkd
          rw [t1] at e
          injection e with _ e
          exact e.symm
        have x36 : wr.cell? ⟨g, 36, none⟩ = some (.int .i32 (ps s (cmtsF l').1)) := (blk_cell hLe 36).trans rfl
        have x37 : wr.cell? ⟨g, 37, none⟩ = some (.int .i32 ((ps s (endF (cmtsF l').1) : Int) - ps s (cmtsF l').1)) := (blk_cell hLe 37).trans rfl
        have x38 : wr.cell? ⟨g, 38, none⟩ = some (.int .u16 ((nextF (cmtsF l').1).1.unit % 65536)) := ((blk_cell hLe 38).trans rfl).trans (congrArg some t2)
        have x39 : wr.cell? ⟨g, 39, none⟩ = some (.int .u8 (nextF (cmtsF l').1).1.kind) := ((blk_cell hLe 39).trans rfl).trans (congrArg some t1)
        have x40 : wr.cell? ⟨g, 40, none⟩ = some (.int .u8 fl) := ((blk_cell hLe 40).trans rfl).trans (congrArg some t3)
        have hne : (cmtsF l').1 ≠ [] := hkd2.1 hk0
        have hnx : (toks (endF (cmtsF l').1)).2 = false := toks_endF HOP.out hne
        have HFLG := Lib.hid (show (fl = 0 ∨ fl = 1 ∨ fl = 2) ∧ (fl = 1 ↔ (nextF (cmtsF l').1).1.id = true) from ⟨t4, t5⟩)
        have HNE := Lib.hid hne
        obtain ⟨i0, hi0, hz0, hz1, hz2⟩ := info_parts info60
        have hown := hTS'.r8
        have hWz : W ≤ wr.heap.size := hTS'.nq.lq.hB
        clear hk0 hkd2 hkd t1 t2 t3 t4 t5 hne hLe
        go_upto_region 18 with (at_builtin; refine wpList_append_lies _ rfl _ _ 44 rfl W 60 i0 _ 5 12 Tryz.underlying44 hi0 hz0 hz1 hz2 rfl (by decide) (.slice p8 dn.length cp8) dn.length (dn.flatMap (lxC s)) rfl (hown.alloc _) ⟨wr.heap.size, 0, none⟩ 1 1 [.int .i32 (ps s (cmtsF l').1), .int .i32 ((ps s (endF (cmtsF l').1) : Int) - ps s (cmtsF l').1), .int .u16 ((nextF (cmtsF l').1).1.unit % 65536), .int .u8 (nextF (cmtsF l').1).1.kind, .int .u8 fl] rfl rfl (World.news_of_block (cs := #[.int .i32 (ps s (cmtsF l').1), .int .i32 ((ps s (endF (cmtsF l').1) : Int) - ps s (cmtsF l').1), .int .u16 ((nextF (cmtsF l').1).1.unit % 65536), .int .u8 (nextF (cmtsF l').1).1.kind, .int .u8 fl]) (t := 60) (fr := (0, 0)) (heap_alloc_new wr _)) (by simp [Value.oneCell']) (by decide) (by unfold maxLen; omega) (by omega) (by simp; omega) (wr.heap.size + 1) (by simp) ?_; intro gg cap3 w5 hown3 hgrow hat hlt3)
        have hTSg := (hTS'.keep ((Keep.refl _ _).alloc (.cells #[.int .i32 (ps s (cmtsF l').1), .int .i32 ((ps s (endF (cmtsF l').1) : Int) - ps s (cmtsF l').1), .int .u16 ((nextF (cmtsF l').1).1.unit % 65536), .int .u8 (nextF (cmtsF l').1).1.kind, .int .u8 fl] 60))).grow8 hgrow hown3
        have hbelg : Below W wr w5 := (((Keep.refl _ _).alloc _).below hWz (fun _ _ (e : False) => e.elim)).trans ((Keep.of_grown hgrow (fun k => (Value.slice p8 dn.length cp8).ownBlock = some k) (fun k e => e)).below (by simp; omega) (fun k _ e => (hown.lt k e).1))
        clear hown3 hgrow hat x36 x37 x38 x39 x40
        go_wp2_with (go_at_call 57; refine (next_calls hTSg.to hnx).mono ?_; rintro e w6 ⟨rfl, r6, lt6, q6, hN6, hTok6⟩)
        obtain ⟨hTS6, hbel6⟩ := hTSg.after hN6
        go_roundg (endF (cmtsF l').1).length
        case measure => have := HN.out; have := Nat.lt_of_lt_of_le (endF_lt HNE.out) (cmtsF_le l'); omega
        case rel =>
          have hn9y : n9 ≤ (dn.length + 1) * 524288 := Nat.le_trans HN9.out (Nat.mul_le_mul_right _ (Nat.le_succ _))
          exact TL.push HNE.out hTS6 hTok6 HFL.out HFLG.out HDN.out HOP.out hn9y HLL.out ((hbelr.trans hbelg).trans hbel6)
      · rw [e18] at c18
        go_wp2_with fail
        go_loopg [9, 35] n18 (fun n a i wq => LG W T k wr g s r (ps s (cmtsF l').1) (endF (cmtsF l').1) lt q (.slice p8 dn.length cp8) (dn.flatMap (lxC s)) dn.length n n9 n18 a i wq)
        case atStart => exact ⟨0, n9, x9, rfl, rfl, Nat.zero_le _, Nat.le_refl _, hTS', Below.refl _ _⟩
        case round =>
          obtain ⟨j, nj, xj, rfl, hnj, hj, hnn, hTSj, hbelj⟩ := hrel
          have HNJ := Lib.hid hnj
          clear hnj
          obtain ⟨pj, cpj, rfl⟩ := own_slice hTSj.r9
          have hWj : W ≤ wr.heap.size := hTSj.nq.lq.hB
          by_cases hlt : j < n18
          · obtain ⟨m0, m1, m2, y0, y1, y2, o0, o1, o2⟩ := (hTSj.legc e18).2 j hlt
            have hj1 : (j : Int) < n18 := by omega
            have hj2 : (0 : Int) ≤ j := by omega
            go_upto_region 13 with (refine wpList_store_row rfl 122 _ _ rfl _ #[m0, m1, m2] rfl rfl 122 _ (heap_alloc_new _ _) (by kernel_rfl) rfl (all3 o0 o1 o2) ?_)
            have hB1 : (wr.alloc (.cells #[.string ⟨#[]⟩, .int .i32 0, .int .u32 0] 122)).heap[wr.heap.size]? = some (.cells #[.string ⟨#[]⟩, .int .i32 0, .int .u32 0] 122 (0, 0)) := heap_alloc_new _ _
            have hB2 := setRow_heap _ wr.heap.size _ #[m0, m1, m2] _ _ hB1
            have hKb : KeepA wr ((wr.alloc (.cells #[.string ⟨#[]⟩, .int .i32 0, .int .u32 0] 122)).setRow wr.heap.size #[m0, m1, m2]) := Keep.setRowN ((Keep.refl _ _).alloc _) (Nat.le_refl _) _
            obtain ⟨X, hXe⟩ : ∃ x, wr.heap.size = x := ⟨_, rfl⟩
            rw [hXe] at hB2 hKb ⊢
            have hXn : wr.heap.size ≤ X := Nat.le_of_eq hXe
            obtain ⟨wb, hwb⟩ : ∃ x, ((wr.alloc (.cells #[.string ⟨#[]⟩, .int .i32 0, .int .u32 0] 122)).setRow X #[m0, m1, m2]) = x := ⟨_, rfl⟩
            rw [hwb] at hB2 hKb ⊢
            clear hwb hB1 y0 y1 y2
            have z2 : wb.cell? ⟨X, 2, none⟩ = some m2 := (blk_cell hB2 2).trans rfl
            have zf : wb.frozen? ⟨X, 2, none⟩ = false := blk_frozen hB2 2
            have hcv : IntKind.u32.wrap (dn.length : Int) = dn.length := by rw [IntKind.wrap_u32]; omega
            clear hXe hj1 hj2
            change Code.wp Tryz.prog _ _ ⟨_, _⟩ wb
            go_upto_region 14 with (fail)
            have hB3 : (wb.setCell ⟨X, 2, none⟩ (.int .u32 dn.length)).heap[X]? = some (.cells #[m0, m1, .int .u32 dn.length] 122 (0, 0)) := (blk_set hB2 2 _).trans rfl
            have hKc : KeepA wr (wb.setCell ⟨X, 2, none⟩ (.int .u32 dn.length)) := hKb.setCellN hXn _
            obtain ⟨wc, hwc⟩ : ∃ x, (wb.setCell ⟨X, 2, none⟩ (.int .u32 dn.length)) = x := ⟨_, rfl⟩
            rw [hwc] at hB3 hKc ⊢
            clear hwc hB2 hKb z2 zf hcv
            have v0 : wc.cell? ⟨X, 0, none⟩ = some m0 := (blk_cell hB3 0).trans rfl
            have v1 : wc.cell? ⟨X, 1, none⟩ = some m1 := (blk_cell hB3 1).trans rfl
            have v2 : wc.cell? ⟨X, 2, none⟩ = some (.int .u32 dn.length) := (blk_cell hB3 2).trans rfl
            obtain ⟨i0, hi0, hz0, hz1, hz2⟩ := info_parts info122
            have hown := (hTSj.keep hKc).r9
            have hle18 := (hTSj.legc e18).1
            have hnb : nj ≤ 1000000000000 := by omega
            have hWc : W ≤ wc.heap.size := Nat.le_trans hWj hKc.size
            go_wp2_with (at_builtin; refine wpList_append_lies _ rfl _ _ 46 rfl W 122 i0 _ 3 24 Tryz.underlying46 hi0 hz0 hz1 hz2 rfl (by decide) (.slice pj nj cpj) nj xj rfl (hown.alloc _) ⟨wc.heap.size, 0, none⟩ 1 1 [m0, m1, .int .u32 dn.length] rfl rfl (World.news_of_block (cs := #[m0, m1, .int .u32 dn.length]) (t := 122) (fr := (0, 0)) (heap_alloc_new wc _)) (all3l o0 o1 _) (by decide) (by unfold maxLen; omega) (by omega) (by simp; omega) (wc.heap.size + 1) (by simp) ?_; intro gg cap3 w4 hown3 hgrow hat hlt3; have HO3 := Lib.hid hown3; have HG3 := Lib.hid hgrow; have HA3 := Lib.hid hat; clear hown3 hgrow hat)
            go_roundg (n18 - (j + 1))
            case measure => have := HNJ.out; omega
            case rel => exact LG.push hTSj hlt hnn hbelj (hKc.alloc _) HG3.out HO3.out (fun i e => lg_at e HA3.out) hWj
          · have hj1 : ¬ (j : Int) < n18 := by omega
            obtain ⟨nlj, _, _, hLj⟩ := hTSj.nq.lq.la.lx
            have g18 : wr.cell? ⟨g, 18, none⟩ = some (.slice (some ⟨g2, 0, none⟩) n18 cap2) := ((blk_cell hLj 18).trans rfl).trans (congrArg some e18)
            have f18 : wr.frozen? ⟨g, 18, none⟩ = false := blk_frozen hLj 18
            have hTSz := hTSj.nil18
            have hKz : KeepB g wr (wr.setCell ⟨g, 18, none⟩ (.slice none 0 0)) := (Keep.refl (fun j => j = g) wr).setCell (p := ⟨g, 18, none⟩) (fun _ => rfl) _
            have hbelz := (hbelr.trans hbelj).trans (hKz.below hWj (fun _ _ e => by omega))
            have hn9z : nj ≤ (dn.length + 1) * 524288 := by
              have := HN9.out
              have := (hTSj.legc e18).1
              omega
            go_upto_region 17 with (fail)
            obtain ⟨wz, hwz⟩ : ∃ x, (wr.setCell ⟨g, 18, none⟩ (.slice none 0 0)) = x := ⟨_, rfl⟩
            rw [hwz] at hTSz hbelz ⊢
            clear hwz hKz g18 f18 hLj hbelj
            have e17z : up r 18 (.slice none 0 0) 17 = .slice p17 n17 cp17 := by rw [up_other (by decide)]; exact e17
            have HTZ : TokC (up r 18 (.slice none 0 0)) (nextF (cmtsF l').1).1 := by
              obtain ⟨t1, t2, fl, t3, t4⟩ := HTK.out
              exact ⟨by rw [up_other (by decide)]; exact t1, by rw [up_other (by decide)]; exact t2, fl, by rw [up_other (by decide)]; exact t3, t4⟩
            generalize up r 18 (.slice none 0 0) = rz at hTSz e17z HTZ
            obtain ⟨nl, hnl0, hnl1, hLe⟩ := hTSz.nq.lq.la.lx
            obtain ⟨t1, t2, fl, t3, t4, t5⟩ := HTZ
            have x36 : wz.cell? ⟨g, 36, none⟩ = some (.int .i32 (ps s (cmtsF l').1)) := (blk_cell hLe 36).trans rfl
            have x37 : wz.cell? ⟨g, 37, none⟩ = some (.int .i32 ((ps s (endF (cmtsF l').1) : Int) - ps s (cmtsF l').1)) := (blk_cell hLe 37).trans rfl
            have x38 : wz.cell? ⟨g, 38, none⟩ = some (.int .u16 ((nextF (cmtsF l').1).1.unit % 65536)) := ((blk_cell hLe 38).trans rfl).trans (congrArg some t2)
            have x39 : wz.cell? ⟨g, 39, none⟩ = some (.int .u8 (nextF (cmtsF l').1).1.kind) := ((blk_cell hLe 39).trans rfl).trans (congrArg some t1)
            have x40 : wz.cell? ⟨g, 40, none⟩ = some (.int .u8 fl) := ((blk_cell hLe 40).trans rfl).trans (congrArg some t3)
            have hne : (cmtsF l').1 ≠ [] := hkd2.1 hk0
            have hnx : (toks (endF (cmtsF l').1)).2 = false := toks_endF HOP.out hne
            have HFLG := Lib.hid (show (fl = 0 ∨ fl = 1 ∨ fl = 2) ∧ (fl = 1 ↔ (nextF (cmtsF l').1).1.id = true) from ⟨t4, t5⟩)
            have HNE := Lib.hid hne
            obtain ⟨i0, hi0, hz0, hz1, hz2⟩ := info_parts info60
            have hown := hTSz.r8
            have hWz : W ≤ wz.heap.size := hTSz.nq.lq.hB
            clear hk0 hkd2 hkd t1 t2 t3 t4 t5 hne hLe
            go_upto_region 18 with (at_builtin; refine wpList_append_lies _ rfl _ _ 44 rfl W 60 i0 _ 5 12 Tryz.underlying44 hi0 hz0 hz1 hz2 rfl (by decide) (.slice p8 dn.length cp8) dn.length (dn.flatMap (lxC s)) rfl (hown.alloc _) ⟨wz.heap.size, 0, none⟩ 1 1 [.int .i32 (ps s (cmtsF l').1), .int .i32 ((ps s (endF (cmtsF l').1) : Int) - ps s (cmtsF l').1), .int .u16 ((nextF (cmtsF l').1).1.unit % 65536), .int .u8 (nextF (cmtsF l').1).1.kind, .int .u8 fl] rfl rfl (World.news_of_block (cs := #[.int .i32 (ps s (cmtsF l').1), .int .i32 ((ps s (endF (cmtsF l').1) : Int) - ps s (cmtsF l').1), .int .u16 ((nextF (cmtsF l').1).1.unit % 65536), .int .u8 (nextF (cmtsF l').1).1.kind, .int .u8 fl]) (t := 60) (fr := (0, 0)) (heap_alloc_new wz _)) (by simp [Value.oneCell']) (by decide) (by unfold maxLen; omega) (by omega) (by simp; omega) (wz.heap.size + 1) (by simp) ?_; intro gg cap3 w5 hown3 hgrow hat hlt3)
            have hTSg := (hTSz.keep ((Keep.refl _ _).alloc (.cells #[.int .i32 (ps s (cmtsF l').1), .int .i32 ((ps s (endF (cmtsF l').1) : Int) - ps s (cmtsF l').1), .int .u16 ((nextF (cmtsF l').1).1.unit % 65536), .int .u8 (nextF (cmtsF l').1).1.kind, .int .u8 fl] 60))).grow8 hgrow hown3
            have hbelg : Below W wz w5 := (((Keep.refl _ _).alloc _).below hWz (fun _ _ (e : False) => e.elim)).trans ((Keep.of_grown hgrow (fun k => (Value.slice p8 dn.length cp8).ownBlock = some k) (fun k e => e)).below (by simp; omega) (fun k _ e => (hown.lt k e).1))
            clear hown3 hgrow hat x36 x37 x38 x39 x40
            go_wp2_with (go_at_call 57; refine (next_calls hTSg.to hnx).mono ?_; rintro e w6 ⟨rfl, r6, lt6, q6, hN6, hTok6⟩)
            obtain ⟨hTS6, hbel6⟩ := hTSg.after hN6
            go_roundg (endF (cmtsF l').1).length
            case measure => have := HN.out; have := Nat.lt_of_lt_of_le (endF_lt HNE.out) (cmtsF_le l'); omega
            case rel =>
              have hn9y : nj ≤ (dn.length + 1) * 524288 := hn9z
              exact TL.push HNE.out hTS6 hTok6 HFL.out HFLG.out HDN.out HOP.out hn9y HLL.out ((hbelz.trans hbelg).trans hbel6)
end Go.Proofs.YtedckphklebndaaGreatDoor
