/- The logger's CommentTextWithoutIndent, walked: it answers some text and changes nothing that was there. Conditions: the source's text lies in cell 10 of the lexer; the range lies within it; at most 2^30 bytes. -/
import Derived.Test.YtedckphklebndaaGreatDoorQGR10
import Derived.Deep.CutBlock
import Derived.Deep.QuietTactic
import Derived.BigQuiet
namespace Go.Proofs.YtedckphklebndaaGreatDoor
open Go Go.RowKit Go.Lib
/-- CommentTextWithoutIndent's first loop. -/
def CI (w0 : World) (a : Nat) (n : Nat) (p k : Value) (w : World) : Prop := ∃ (pre : ByteArray) (c : Nat), n = pre.size ∧ p = .string pre ∧ k = .int .i64 c ∧ pre.size + c ≤ a ∧ KeepA w0 w
/-- The bytes of some texts. -/
def sumz : List ByteArray → Nat
  | [] => 0
  | x :: l => x.size + sumz l
theorem sumz_append (a b : List ByteArray) : sumz (a ++ b) = sumz a + sumz b := by
  induction a with
  | nil => simp [sumz]
  | cons x a ih => simp only [List.cons_append, sumz, ih]; omega
/-- CommentTextWithoutIndent's loop over the comment. -/
def CL (w0 : World) (H : Nat) (T : ByteArray) (n : Nat) (v k : Value) (w : World) : Prop :=
  ∃ (i S : Nat) (xs : List ByteArray), i ≤ T.size ∧ n = T.size - i ∧ k = .int .i64 S ∧ w.heap[H]? = some (.stringIter T i) ∧ KeepA w0 w ∧ w.ownsRow w0.heap.size 9 1 v xs.length (xs.map Value.string) ∧
    (S ≤ i ∨ (S = i + 1 ∧ (Utf8.decode T i).1 = 10)) ∧ S ≤ T.size ∧ sumz xs ≤ S ∧ xs.length ≤ S
theorem info9 : (Tryz.prog.info? 9).map (fun i => (i.zero, i.size, i.bytes)) = some (some (.string ⟨#[]⟩), 1, 16) := by kernel_rfl
theorem own_iter_ne {w : World} {base : Nat} {e : TypeId} {size n : Nat} {v : Value} {xs : List Value} {H : Nat} {s : ByteArray} {i : Nat} (ho : w.ownsRow base e size v n xs) (hb : w.heap[H]? = some (.stringIter s i)) : v.ownBlock ≠ some H := by
  intro hk
  rcases ho.2 with ⟨rfl, _⟩ | ⟨k, cap, cur, rfl, _, hc, _⟩
  · cases hk
  · simp only [Value.ownBlock, Option.some.injEq] at hk
    subst hk
    rw [hc] at hb
    cases hb
theorem keep_iterAt {w : World} {H : Nat} (s : ByteArray) (pos : Nat) : KeepB H w (w.iterAt H s pos) :=
  ⟨rfl, rfl, rfl, by rw [iterAt_size]; exact Nat.le_refl _, fun i _ hn => iterAt_other w H i s pos hn⟩
theorem own_iterAt {w : World} {base : Nat} {e : TypeId} {size n : Nat} {v : Value} {xs : List Value} {H : Nat} {s : ByteArray} {i : Nat} (ho : w.ownsRow base e size v n xs) (hb : w.heap[H]? = some (.stringIter s i)) (pos : Nat) : (w.iterAt H s pos).ownsRow base e size v n xs :=
  (keep_iterAt s pos).own ho (fun k e1 e2 => own_iter_ne ho hb (by rw [e1, e2]))
theorem CL.push {w0 wn w3 : World} {H : Nat} {T X : ByteArray} {v v' : Value} {xs : List ByteArray} {o : Obj} {i S : Nat} (ho : wn.ownsRow w0.heap.size 9 1 v xs.length (xs.map Value.string)) (hI : wn.heap[H]? = some (.stringIter T i)) (hK : KeepA w0 wn)
    (hg : (wn.alloc o).grownBy w3 v.ownBlock) (ho4 : w3.ownsRow w0.heap.size 9 1 v' (xs.length + 1) (xs.map Value.string ++ [.string X])) (hi : i ≤ T.size) {kk : Int} (hk : kk = (S : Nat)) (hS : S ≤ i ∨ (S = i + 1 ∧ (Utf8.decode T i).1 = 10)) (hS2 : S ≤ T.size) (hsum : sumz xs + X.size ≤ S) (hlen : xs.length + 1 ≤ S) :
    CL w0 H T (T.size - i) v' (.int .i64 kk) w3 := by
  subst hk
  have hne := own_iter_ne ho hI
  have hlt := ho.lt
  have hK1 : Keep (fun k => v.ownBlock = some k) (wn.alloc o) w3 := Keep.of_grown hg _ (fun k e => e)
  have hsz := hK.size
  refine ⟨i, S, xs ++ [X], hi, rfl, rfl, ?_, ?_, ?_, hS, hS2, by rw [sumz_append]; simp only [sumz]; omega, by simp; omega⟩
  · exact hK1.blk (alloc_old o hI) hne
  · exact (hK.alloc o).trans' hK1 (fun k hk e => by have := (hlt k e).1; omega)
  · have e1 : (xs ++ [X]).length = xs.length + 1 := by simp
    have e2 : (xs ++ [X]).map Value.string = xs.map Value.string ++ [.string X] := by simp
    rw [e1, e2]
    exact ho4
theorem CL.row {w0 wn w3 : World} {X : ByteArray} {v : Value} {xs : List ByteArray} {o : Obj} {gg cap M : Nat} (ho : wn.ownsRow w0.heap.size 9 1 v xs.length (xs.map Value.string)) (hK : KeepA w0 wn)
    (hg : (wn.alloc o).grownBy w3 v.ownBlock) (ho4 : w3.ownsRow w0.heap.size 9 1 (.slice (some ⟨gg, 0, none⟩) (xs.length + 1) cap) (xs.length + 1) (xs.map Value.string ++ [.string X])) (hsum : sumz xs + X.size ≤ M) :
    ∃ (cur : Array Value) (ys : List ByteArray), w3.heap[gg]? = some (.cells cur 9 (0, 0)) ∧ (∀ (j : Nat) (x : ByteArray), ys[j]? = some x → cur[j]? = some (Value.string x)) ∧ ys.length = xs.length + 1 ∧ sumz ys ≤ M ∧ xs.length + 1 ≤ cap ∧ w0.heap.size ≤ gg ∧ KeepA w0 w3 := by
  have hlt := ho.lt
  have hK1 : Keep (fun k => v.ownBlock = some k) (wn.alloc o) w3 := Keep.of_grown hg _ (fun k e => e)
  have hsz := hK.size
  rcases ho4.2 with ⟨h, _⟩ | ⟨k, cap', cur, hv, hb, hc, hcap, _, _, htk⟩
  · cases h
  · injection hv with hv1 _ hv2
    injection hv1 with hv1
    injection hv1 with hv1 _ _
    subst hv1 hv2
    refine ⟨cur, xs ++ [X], hc, ?_, by simp, by rw [sumz_append]; simp only [sumz]; omega, hcap, hb, (hK.alloc o).trans' hK1 (fun k hk e => by have := (hlt k e).1; omega)⟩
    intro j x hx
    have e2 : (xs ++ [X]).map Value.string = cur.toList.take ((xs.length + 1) * 1) := by rw [htk]; simp
    have e3 : ((xs ++ [X]).map Value.string)[j]? = some (Value.string x) := by rw [List.getElem?_map, hx]; rfl
    rw [e2] at e3
    have hj := (List.getElem?_eq_some_iff.1 e3).1
    rw [List.length_take] at hj
    rw [List.getElem?_take_of_lt (by omega)] at e3
    simpa using e3
/-- CommentTextWithoutIndent's loop over the lines: the least indent. -/
def C3 (w0 : World) (gg : Nat) (cur : Array Value) (ys : List ByteArray) (N a : Nat) (m : Nat) (k j : Value) (w : World) : Prop :=
  ∃ ind p : Nat, k = .int .i64 ind ∧ j = .int .i64 p ∧ p ≤ N - 1 ∧ m = N - 1 - p ∧ KeepA w0 w ∧ w.heap[gg]? = some (.cells cur 9 (0, 0)) ∧ ind ≤ a ∧ ∀ (i : Nat) (x : ByteArray), 1 ≤ i → i ≤ p → ys[i]? = some x → ind ≤ x.size
theorem C3.next {w0 w : World} {gg : Nat} {cur : Array Value} {ys : List ByteArray} {N a ind j p ind' : Nat} {x : ByteArray} {jv kv : Int} (hmin : ∀ (i : Nat) (x : ByteArray), 1 ≤ i → i ≤ j → ys[i]? = some x → ind ≤ x.size) (hx : ys[1 + j]? = some x) (hK : KeepA w0 w) (hB : w.heap[gg]? = some (.cells cur 9 (0, 0))) (hj : j + 1 ≤ N - 1) (hp : p ≤ x.size)
    (hi : (ind' = ind ∧ ind ≤ p) ∨ (ind' = p ∧ p ≤ ind)) (ha : ind ≤ a) (hjv : jv = (j : Int) + 1) {hkv : kv = (ind' : Nat)} : C3 w0 gg cur ys N a (N - 1 - (j + 1)) (.int .i64 kv) (.int .i64 jv) w := by
  subst hkv hjv
  refine ⟨ind', j + 1, rfl, (by simp), hj, rfl, hK, hB, by omega, fun i y h1 h2 h3 => ?_⟩
  by_cases e : i = 1 + j
  · subst e
    rw [hx] at h3
    injection h3 with h3
    subst h3
    omega
  · have := hmin i y h1 (by omega) h3
    omega
/-- .. and within a line. -/
def C4 (w0 : World) (gg : Nat) (cur : Array Value) (H : Nat) (x : ByteArray) (m : Nat) (k : Value) (w : World) : Prop :=
  ∃ p : Nat, k = .int .i64 p ∧ p ≤ x.size ∧ m = x.size - p ∧ KeepA w0 w ∧ w.heap[gg]? = some (.cells cur 9 (0, 0)) ∧ w.heap[H]? = some (.stringIter x p)
/-- CommentTextWithoutIndent's last loop. -/
def C5 (w0 : World) (gg : Nat) (ys : List ByteArray) (N M : Nat) (m : Nat) (j : Value) (w : World) : Prop :=
  ∃ (p : Nat) (cur : Array Value) (zs : List ByteArray), j = .int .i64 p ∧ p ≤ N ∧ m = N - p ∧ KeepA w0 w ∧ w.heap[gg]? = some (.cells cur 9 (0, 0)) ∧ zs.length = N ∧ (∀ (i : Nat) (x : ByteArray), zs[i]? = some x → cur[i]? = some (Value.string x)) ∧ (∀ i : Nat, p ≤ i → zs[i]? = ys[i]?) ∧ sumz zs ≤ M
theorem sumz_mem {ys : List ByteArray} {i : Nat} {x : ByteArray} (h : ys[i]? = some x) : x.size ≤ sumz ys := by
  induction ys generalizing i with
  | nil => simp at h
  | cons y ys ih =>
    cases i with
    | zero => simp at h; subst h; simp [sumz]
    | succ i => simp at h; have := ih h; simp only [sumz]; omega
theorem sumz_set {zs : List ByteArray} {i : Nat} {x y : ByteArray} (h : zs[i]? = some x) (hy : y.size ≤ x.size) : sumz (zs.set i y) ≤ sumz zs := by
  induction zs generalizing i with
  | nil => simp at h
  | cons z zs ih =>
    cases i with
    | zero => simp at h; subst h; simp [sumz]; omega
    | succ i => simp at h; have := ih h; simp only [List.set_cons_succ, sumz]; omega
theorem ext_len' (y : ByteArray) (i : Nat) : (y.extract i y.size).size ≤ y.size := by
  rw [Lib.size_eq, Lib.extract_data, List.length_take]; omega
theorem C5.next {w0 w : World} {gg : Nat} {ys zs : List ByteArray} {cu : Array Value} {N M p : Nat} {x y : ByteArray} {jv : Int} (hK : KeepA w0 w) (hB : w.heap[gg]? = some (.cells cu 9 (0, 0))) (hl : zs.length = N) (hc : ∀ (i : Nat) (x : ByteArray), zs[i]? = some x → cu[i]? = some (Value.string x)) (hy : ∀ i : Nat, p ≤ i → zs[i]? = ys[i]?) (hs : sumz zs ≤ M)
    (hz : zs[p]? = some y) (hp : p < N) (hg : w0.heap.size ≤ gg) (hx : x.size ≤ y.size) (hj : jv = (p : Int) + 1) : C5 w0 gg ys N M (N - (p + 1)) (.int .i64 jv) (w.setCell ⟨gg, p, none⟩ (.string x)) := by
  subst hj
  have hpc := (Array.getElem?_eq_some_iff.1 (hc p y hz)).1
  refine ⟨p + 1, cu.setIfInBounds p (.string x), zs.set p x, (by simp), by omega, rfl, hK.setCell (p := ⟨gg, p, none⟩) (fun h => absurd h (Nat.not_lt.2 hg)) _, blk_set hB p _, by simp [hl], ?_, ?_, Nat.le_trans (sumz_set hz hx) hs⟩
  · intro i z hi
    by_cases e : i = p
    · subst e
      rw [List.getElem?_set_self (by omega)] at hi
      injection hi with hi
      subst hi
      simp [hpc]
    · rw [List.getElem?_set_ne (fun q => e q.symm)] at hi
      have := hc i z hi
      rw [Array.getElem?_setIfInBounds_ne (fun q => e q.symm)]
      exact this
  · intro i hi
    rw [List.getElem?_set_ne (by omega)]
    exact hy i (by omega)
theorem sumz_lens (zs : List ByteArray) : Lib.lens (zs.map (·.data.toList)) = sumz zs := by
  induction zs with
  | nil => rfl
  | cons z zs ih =>
    simp only [List.map_cons, sumz, ← ih]
    simp [Lib.lens]
theorem join_fits (zs : List ByteArray) (sep : List UInt8) (h : sep.length = 1) : (Lib.join (zs.map (·.data.toList)) sep).length ≤ sumz zs + zs.length := by
  cases zs with
  | nil => simp [Lib.join_nil]
  | cons z zs =>
    rw [List.map_cons, Lib.join_length, h]
    have := sumz_lens (z :: zs)
    rw [List.map_cons] at this
    rw [this]
    simp
    omega
theorem Join_calls {w : World} {gg cap N : Nat} {cu : Array Value} {zs : List ByteArray} (hB : w.heap[gg]? = some (.cells cu 9 (0, 0))) (hl : zs.length = N) (hc : ∀ (i : Nat) (x : ByteArray), zs[i]? = some x → cu[i]? = some (Value.string x)) (hcap : N ≤ cap) (hN : N ≤ 1073741826) (hs : sumz zs ≤ 1073741826) (H : Nat) (hH : w.heap.size = H) :
    Calls Tryz.prog 123 #[.slice (some ⟨gg, 0, none⟩) N cap, .string ⟨#[10]⟩] w fun e w' => ∃ R : ByteArray, e = .returned (.string R) ∧ Below H w w' := by
  subst hl hH
  refine (Tryz.strings_Join gg 0 cap zs ⟨#[10]⟩ w ?_ (lt_of_blk hB) (by omega) hcap ?_).mono fun e w' h => ⟨_, h.1, h.2⟩
  · intro j x hx
    rw [Nat.zero_add]
    exact (blk_cell hB j).trans (hc _ _ hx)
  · have := join_fits zs [10] rfl
    show (Lib.join (zs.map (·.data.toList)) [10]).length ≤ _
    omega
theorem ext_len (T : ByteArray) (a b : Nat) : (T.extract a b).size ≤ b - a := by
  rw [Lib.size_eq, Lib.extract_data, List.length_take]; omega
theorem dec_wide (s : ByteArray) (i : Nat) : ((Utf8.decode s i).1 < 128 → (Utf8.decode s i).2 = 1) ∧ ((Utf8.decode s i).1 = 8232 ∨ (Utf8.decode s i).1 = 8233 → (Utf8.decode s i).2 = 3) := by
  rw [Lib.decode_at]
  have k0 := (s.get! i).toNat_lt
  have k1 := (s.get! (i + 1)).toNat_lt
  have k2 := (s.get! (i + 2)).toNat_lt
  have k3 := (s.get! (i + 3)).toNat_lt
  rcases Lib.decodeN_shape (s.size - i) (s.get! i).toNat (s.get! (i + 1)).toNat (s.get! (i + 2)).toNat (s.get! (i + 3)).toNat with ⟨c, e⟩ | ⟨c1, c2, c3, cv, e⟩ | ⟨c1, c2, c3, c4, cv, cs, e⟩ | ⟨c1, c2, c3, c4, c5, cv, cw, e⟩ | e
  all_goals
    have e1 := congrArg Prod.fst e
    have e2 := congrArg Prod.snd e
    simp only at e1 e2
    refine ⟨fun h => ?_, fun h => ?_⟩ <;> omega
def CE (w0 : World) (e : Ending) (w : World) : Prop := ∃ R : ByteArray, e = .returned (.string R) ∧ KeepA w0 w
set_option maxRecDepth 100000 in
set_option maxHeartbeats 4000000 in
theorem CommentText_calls {g : Nat} {s : ByteArray} {a e : Nat} {w : World} (hc : w.cell? ⟨g, 10, none⟩ = some (.string s)) (ht : Lib.Utf8Tabs 0 1 w) (hae : a ≤ e) (hes : e ≤ s.size) (hs : s.size ≤ 1073741824) :
    Calls Tryz.prog 105 #[.pointer (some ⟨g, 7, none⟩), .agg #[.int .i32 a, .int .i32 ((e : Int) - a)]] w (CE w) := by
  have hK0 : KeepA w (w.alloc (.cells #[.int .i32 a, .int .i32 ((e : Int) - a)] 50)) := (Keep.refl _ w).alloc _
  have hB0 : (w.alloc (.cells #[.int .i32 a, .int .i32 ((e : Int) - a)] 50)).heap[w.heap.size]? = some (.cells #[.int .i32 a, .int .i32 ((e : Int) - a)] 50 (0, 0)) := alloc_at _ rfl
  have hc0 := hK0.cell hc (fun x => x)
  go_enter Tryz.func105, Tryz.ntmps105
  go_upto_region 1 with (fail)
  obtain ⟨w1, hw1⟩ : ∃ x, w.alloc (.cells #[.int .i32 a, .int .i32 ((e : Int) - a)] 50) = x := ⟨_, rfl⟩
  obtain ⟨H, hH⟩ : ∃ x, w.heap.size = x := ⟨_, rfl⟩
  rw [hw1] at hK0 hB0 hc0 ⊢
  rw [hH] at hB0 ⊢
  clear hw1
  have x0 : w1.cell? ⟨H, 0, none⟩ = some (.int .i32 a) := (blk_cell hB0 0).trans rfl
  have x1 : w1.cell? ⟨H, 1, none⟩ = some (.int .i32 ((e : Int) - a)) := (blk_cell hB0 1).trans rfl
  have i1 : (a : Int) ≤ e := by omega
  have i2 : (e : Int) ≤ s.size := by omega
  go_step3
  go_upto_region 1 with (fail)
  go_cut [5] (fun u wc => u = .string (s.extract a e) ∧ KeepA w1 wc)
  case first =>
    go_region_held3 (fun w' => w'.cell? ⟨g, 10, none⟩ = some (.string s) ∧ w'.cell? ⟨H, 0, none⟩ = some (.int .i32 a) ∧ w'.cell? ⟨H, 1, none⟩ = some (.int .i32 ((e : Int) - a))) (go_keep)
      (first | (go_at_call 24; refine (End_at _ _ (by omega) _).mono ?_; rintro e w2 ⟨rfl, hk2⟩; have y0 := hk2.cell (p := ⟨g, 10, none⟩) hc0 (fun x => x); have y1 := hk2.cell (p := ⟨H, 0, none⟩) x0 (fun x => x); have y2 := hk2.cell (p := ⟨H, 1, none⟩) x1 (fun x => x)))
    all_goals
      go_wp2_with fail
      go_meet
      case rel => exact ⟨rfl, ((Keep.refl _ _).drew.trans hk2)⟩
  case rest =>
    obtain ⟨rfl, hk⟩ := hcut
    have hK1 := hK0.trans hk
    have y0 := hk.cell (p := ⟨g, 10, none⟩) hc0 (fun x => x)
    have y1 := hk.cell (p := ⟨H, 0, none⟩) x0 (fun x => x)
    obtain ⟨T, hT⟩ : ∃ T, s.extract a e = T := ⟨_, rfl⟩
    have hTs : T.size ≤ 1073741824 := by rw [← hT]; exact Nat.le_trans (ext_size _ _ _) (by omega)
    rw [hT]
    clear x0 x1 hc0 hK0 hk hT hB0
    by_cases hT2 : T.size < 2
    · have kT : decide ((T.size : Int) < 2) = true := decide_eq_true (by omega)
      have kT2 : ¬ (2 : Int) ≤ T.size := by omega
      clear hT2
      go_wp2_with fail
      (try rw [Exit.noGoto_ret])
      go_ret
      exact ⟨T, rfl, hK1⟩
    have kT : decide ((T.size : Int) < 2) = false := decide_eq_false (by omega)
    have kT2 : (2 : Int) ≤ T.size := by omega
    clear hT2
    go_wp2_with fail
    refine (hasPre_calls _ _ _).mono ?_
    rintro e' w' ⟨b0, rfl, rfl⟩
    cases b0 with
    | false =>
      go_wp2_with fail
      (try rw [Exit.noGoto_ret])
      go_ret
      exact ⟨T, rfl, hK1⟩
    | true =>
      have i3 : (a : Int) ≤ s.size := by omega
      have i4 : (0 : Int) ≤ a := by omega
      go_wp2_with fail
      go_quiet (fail)
      go_wp2_with fail
      go_step3
      go_upto_block 0 with (fail)
      go_cut [6, 7, 8, 9] (fun u6 u7 u8 u9 wc => ∃ c : Nat, u7 = .int .i64 c ∧ c ≤ a ∧ KeepA w wc)
      case first => as_aux_lemma =>
        have hK1' : KeepA w (wc.drewN nq) := hK1.drewN nq
        go_wp2_with fail
        go_loopg [6, 7] (s.extract 0 a).size (fun n p k wr => CI w a n p k wr)
        case atStart => exact ⟨_, 0, rfl, rfl, rfl, by have := ext_size s 0 a; omega, hK1'⟩
        case round =>
          obtain ⟨pre, c, hn, hp, hk, hle, hK⟩ := hrel
          subst hp hk
          have HN := Lib.hid hn
          clear hn hK1' hK1
          by_cases h0 : pre.size = 0
          · have k0 : ¬ (0 : Int) < pre.size := by omega
            clear h0
            go_wp2_with fail
            go_meet
            case rel => exact ⟨c, rfl, by omega, hK⟩
          · have k0 : (0 : Int) < pre.size := by omega
            have hz : pre.data.toList.length = pre.size := by simp
            obtain ⟨d1, d2⟩ := Lib.decodeLastL_width pre.data.toList (by omega)
            have hdl := Tryz.utf8_DecodeLastRuneInString pre wr (by omega) (tabs_keep ht hK (fun x => x) (fun x => x))
            obtain ⟨cc, hcc⟩ : ∃ x, (Lib.decodeLastL pre.data.toList).1 = x := ⟨_, rfl⟩
            obtain ⟨d, hd⟩ : ∃ x, (Lib.decodeLastL pre.data.toList).2 = x := ⟨_, rfl⟩
            rw [hcc, hd] at hdl
            rw [hd] at d1 d2
            rw [hz] at d2
            clear hcc hd h0 hz
            have i5 : (0 : Int) ≤ (pre.size : Int) - d := by omega
            have i6 : (pre.size : Int) - d ≤ pre.size := by omega
            have i7 : ((pre.size : Int) - d).toNat = pre.size - d := by omega
            cases hl : isLn (cc : Int) with
            | true =>
              have hk := isLn_cases hl
              clear hl
              rcases hk with k2 | ⟨k1, k2⟩ | ⟨k1, k2, k3⟩ | ⟨k1, k2, k3, k4⟩
              all_goals
                go_wp2_with fail
                refine hdl.mono ?_
                rintro e' w2 ⟨rfl, hbel⟩
                go_wp2_with fail
                go_meet
                case rel => exact ⟨c, rfl, by omega, hK.trans (Keep.of_below hbel _)⟩
            | false =>
              obtain ⟨k1, k2, k3, k4⟩ := isLn_false hl
              clear hl
              go_wp2_with fail
              refine hdl.mono ?_
              rintro e' w2 ⟨rfl, hbel⟩
              go_wp2_with fail
              go_roundg (pre.size - d)
              case measure => have := HN.out; omega
              case rel => exact ⟨_, c + 1, (by simp), rfl, (by simp), (by simp; omega), hK.trans (Keep.of_below hbel _)⟩
      case rest =>
        obtain ⟨c0, rfl, hc0, hK2⟩ := hcut
        clear hK1 y0 y1
        have hKi : KeepA w (wc.iter T 0) := hK2.alloc _
        have hIi := World.iter_heap wc T 0
        go_wp2_with fail
        obtain ⟨w2, hw2⟩ : ∃ x, wc.iter T 0 = x := ⟨_, rfl⟩
        obtain ⟨H2, hH2⟩ : ∃ x, wc.heap.size = x := ⟨_, rfl⟩
        have hHw : w.heap.size ≤ H2 := by have := hK2.size; omega
        rw [hw2] at hKi hIi
        rw [hH2] at hIi
        (try rw [hw2])
        (try rw [hH2])
        clear hw2 hH2 hK2
        go_loopg [10, 11] T.size (fun n v k wr => CL w H2 T n v k wr)
        case atStart => exact ⟨0, 0, [], Nat.zero_le _, rfl, rfl, hIi, hKi, World.ownsRow_nil _ _ _ _, .inl (Nat.le_refl _), Nat.zero_le _, Nat.zero_le _, Nat.zero_le _⟩
        case round =>
          obtain ⟨i, S, xs, hi, hn, hk, hI, hK, hown, hS, hS2, hsum, hlen⟩ := hrel
          subst hk
          have HN := Lib.hid hn
          clear hn hKi hIi
          by_cases hlt : i < T.size
          · obtain ⟨d1, d2⟩ := dec_fits T hlt
            obtain ⟨e1, e2⟩ := dec_wide T i
            have hnx := fun ty => run_next_any_at (P := Tryz.prog) wr H2 T i ty hI hlt
            obtain ⟨c, hc⟩ : ∃ c, (Utf8.decode T i).1 = c := ⟨_, rfl⟩
            obtain ⟨d, hd⟩ : ∃ d, (Utf8.decode T i).2 = d := ⟨_, rfl⟩
            rw [hc, hd] at hnx
            rw [hc, hd] at e1 e2
            rw [hd] at d1 d2
            have hS' : S ≤ i ∨ (S = i + 1 ∧ c = 10) := by rw [← hc]; exact hS
            have hK3 : KeepA w (wr.iterAt H2 T (i + d)) := hK.iterAt hHw T (i + d)
            have hI3 : (wr.iterAt H2 T (i + d)).heap[H2]? = some (.stringIter T (i + d)) := iterAt_heap wr H2 T i (i + d) hI
            have hown3 := own_iterAt hown hI (i + d)
            obtain ⟨wn, hwn⟩ : ∃ x, wr.iterAt H2 T (i + d) = x := ⟨_, rfl⟩
            rw [hwn] at hnx hK3 hI3 hown3
            have HI3 := Lib.hid hI3
            have HOW := Lib.hid hown3
            have HC := Lib.hid hc
            clear hwn hc hd hI hK hown hown3 hI3 hS
            have hwnz : w.heap.size ≤ wn.heap.size := hK3.size
            obtain ⟨i0, hi0, hz0, hz1, hz2⟩ := info_parts info9
            by_cases hnl : c = 13 ∨ c = 10
            · have hd1 : d = 1 := e1 (by omega)
              subst hd1
              have k3 : ((c : Int) == 8232) = false := by simp only [beq_eq_false_iff_ne]; omega
              have k4 : ((c : Int) == 8233) = false := by simp only [beq_eq_false_iff_ne]; omega
              by_cases hSi : S ≤ i
              · have j1 : (S : Int) ≤ i := by omega
                have j2 : (i : Int) ≤ T.size := by omega
                by_cases h13 : c = 13
                · have k1 : ((c : Int) == 13) = true := by rw [h13]; rfl
                  by_cases hend : i + 1 < T.size
                  · obtain ⟨x, hx⟩ : ∃ x : Nat, ∀ hh : i + 1 < T.size, (T[i + 1]'hh).toNat = x := ⟨(T[i + 1]'hend).toNat, fun _ => rfl⟩
                    have j3 : (i : Int) + 1 < T.size := by omega
                    by_cases h10 : x = 10
                    · have k5 : ((x : Int) == 10) = true := by rw [h10]; rfl
                      have HX : Hid ((Utf8.decode T (i + 1)).1 = 10) := Lib.hid (by rw [decode_ascii T (i + 1) hend (by rw [hx hend]; omega), hx hend]; exact h10)
                      clear h10 h13 hnl hS' e1 e2
                      go_wp2_with (at_builtin; refine wpList_append_lies _ rfl _ _ 174 rfl w.heap.size 9 i0 _ 1 16 Tryz.underlying174 hi0 hz0 hz1 hz2 rfl (by decide) u10 xs.length (xs.map Value.string) rfl (HOW.out.alloc _) ⟨wn.heap.size, 0, none⟩ 1 1 [.string (T.extract S i)] rfl rfl (World.news_of_block (cs := #[.string (T.extract S i)]) (t := 9) (fr := (0, 0)) (heap_alloc_new wn _)) (by simp [Value.oneCell']) (by decide) (by unfold maxLen; omega) (by omega) (by simp; omega) (wn.heap.size + 1) (by simp) ?_; intro gg cap w3 hown4 hgrow hat hlt4; have HO4 := Lib.hid hown4; have HG4 := Lib.hid hgrow; clear hown4 hgrow hat hlt4)
                      go_roundg (T.size - (i + 1))
                      case measure => have := HN.out; omega
                      case rel => exact CL.push HOW.out HI3.out hK3 HG4.out HO4.out d2 (S := i + 1 + 1) (by omega) (.inr ⟨rfl, HX.out⟩) (by omega) (by have := ext_len T S i; omega) (by omega)
                    · have k5 : ((x : Int) == 10) = false := by simp only [beq_eq_false_iff_ne]; omega
                      clear h10 h13 hnl hS' e1 e2
                      go_wp2_with (at_builtin; refine wpList_append_lies _ rfl _ _ 174 rfl w.heap.size 9 i0 _ 1 16 Tryz.underlying174 hi0 hz0 hz1 hz2 rfl (by decide) u10 xs.length (xs.map Value.string) rfl (HOW.out.alloc _) ⟨wn.heap.size, 0, none⟩ 1 1 [.string (T.extract S i)] rfl rfl (World.news_of_block (cs := #[.string (T.extract S i)]) (t := 9) (fr := (0, 0)) (heap_alloc_new wn _)) (by simp [Value.oneCell']) (by decide) (by unfold maxLen; omega) (by omega) (by simp; omega) (wn.heap.size + 1) (by simp) ?_; intro gg cap w3 hown4 hgrow hat hlt4; have HO4 := Lib.hid hown4; have HG4 := Lib.hid hgrow; clear hown4 hgrow hat hlt4)
                      go_roundg (T.size - (i + 1))
                      case measure => have := HN.out; omega
                      case rel => exact CL.push HOW.out HI3.out hK3 HG4.out HO4.out d2 (S := i + 1) (by omega) (.inl (Nat.le_refl _)) (by omega) (by have := ext_len T S i; omega) (by omega)
                  · have j3 : ¬ (i : Int) + 1 < T.size := by omega
                    clear h13 hnl hS' e1 e2
                    go_wp2_with (at_builtin; refine wpList_append_lies _ rfl _ _ 174 rfl w.heap.size 9 i0 _ 1 16 Tryz.underlying174 hi0 hz0 hz1 hz2 rfl (by decide) u10 xs.length (xs.map Value.string) rfl (HOW.out.alloc _) ⟨wn.heap.size, 0, none⟩ 1 1 [.string (T.extract S i)] rfl rfl (World.news_of_block (cs := #[.string (T.extract S i)]) (t := 9) (fr := (0, 0)) (heap_alloc_new wn _)) (by simp [Value.oneCell']) (by decide) (by unfold maxLen; omega) (by omega) (by simp; omega) (wn.heap.size + 1) (by simp) ?_; intro gg cap w3 hown4 hgrow hat hlt4; have HO4 := Lib.hid hown4; have HG4 := Lib.hid hgrow; clear hown4 hgrow hat hlt4)
                    go_roundg (T.size - (i + 1))
                    case measure => have := HN.out; omega
                    case rel => exact CL.push HOW.out HI3.out hK3 HG4.out HO4.out d2 (S := i + 1) (by omega) (.inl (Nat.le_refl _)) (by omega) (by have := ext_len T S i; omega) (by omega)
                · have k1 : ((c : Int) == 13) = false := by simp only [beq_eq_false_iff_ne]; omega
                  have k2 : ((c : Int) == 10) = true := by rw [beq_iff_eq]; omega
                  clear h13 hnl hS' e1 e2
                  go_wp2_with (at_builtin; refine wpList_append_lies _ rfl _ _ 174 rfl w.heap.size 9 i0 _ 1 16 Tryz.underlying174 hi0 hz0 hz1 hz2 rfl (by decide) u10 xs.length (xs.map Value.string) rfl (HOW.out.alloc _) ⟨wn.heap.size, 0, none⟩ 1 1 [.string (T.extract S i)] rfl rfl (World.news_of_block (cs := #[.string (T.extract S i)]) (t := 9) (fr := (0, 0)) (heap_alloc_new wn _)) (by simp [Value.oneCell']) (by decide) (by unfold maxLen; omega) (by omega) (by simp; omega) (wn.heap.size + 1) (by simp) ?_; intro gg cap w3 hown4 hgrow hat hlt4; have HO4 := Lib.hid hown4; have HG4 := Lib.hid hgrow; clear hown4 hgrow hat hlt4)
                  go_roundg (T.size - (i + 1))
                  case measure => have := HN.out; omega
                  case rel => exact CL.push HOW.out HI3.out hK3 HG4.out HO4.out d2 (S := i + 1) (by omega) (.inl (Nat.le_refl _)) (by omega) (by have := ext_len T S i; omega) (by omega)
              · have j1 : ¬ (S : Int) ≤ i := by omega
                have hS4 : S = i + 1 ∧ c = 10 := hS'.resolve_left hSi
                have k1 : ((c : Int) == 13) = false := by rw [hS4.2]; rfl
                have k2 : ((c : Int) == 10) = true := by rw [hS4.2]; rfl
                have hS5 := hS4.1
                have HS5 := Lib.hid hS5
                clear hS4 hnl hS' e1 e2 hS5
                go_wp2_with fail
                go_roundg (T.size - (i + 1))
                case measure => have := HN.out; omega
                case rel => exact ⟨i + 1, i + 1, xs, d2, rfl, rfl, HI3.out, hK3, HOW.out, .inl (Nat.le_refl _), d2, by have := HS5.out; omega, by have := HS5.out; omega⟩
            · by_cases hu : c = 8232 ∨ c = 8233
              · have hd3 : d = 3 := e2 hu
                subst hd3
                have hSi : S ≤ i := by omega
                have j1 : (S : Int) ≤ i := by omega
                have j2 : (i : Int) ≤ T.size := by omega
                have k1 : ((c : Int) == 13) = false := by simp only [beq_eq_false_iff_ne]; omega
                have k2 : ((c : Int) == 10) = false := by simp only [beq_eq_false_iff_ne]; omega
                have hk : ((c : Int) == 8232) = true ∨ (((c : Int) == 8232) = false ∧ ((c : Int) == 8233) = true) := by
                  rcases hu with e | e
                  · exact .inl (by rw [e]; rfl)
                  · exact .inr ⟨by rw [e]; rfl, by rw [e]; rfl⟩
                clear hu hnl hS' e1 e2
                rcases hk with k3 | ⟨k3, k4⟩
                all_goals
                  go_wp2_with (at_builtin; refine wpList_append_lies _ rfl _ _ 174 rfl w.heap.size 9 i0 _ 1 16 Tryz.underlying174 hi0 hz0 hz1 hz2 rfl (by decide) u10 xs.length (xs.map Value.string) rfl (HOW.out.alloc _) ⟨wn.heap.size, 0, none⟩ 1 1 [.string (T.extract S i)] rfl rfl (World.news_of_block (cs := #[.string (T.extract S i)]) (t := 9) (fr := (0, 0)) (heap_alloc_new wn _)) (by simp [Value.oneCell']) (by decide) (by unfold maxLen; omega) (by omega) (by simp; omega) (wn.heap.size + 1) (by simp) ?_; intro gg cap w3 hown4 hgrow hat hlt4; have HO4 := Lib.hid hown4; have HG4 := Lib.hid hgrow; clear hown4 hgrow hat hlt4)
                  go_roundg (T.size - (i + 3))
                  case measure => have := HN.out; omega
                  case rel => exact CL.push HOW.out HI3.out hK3 HG4.out HO4.out d2 (S := i + 3) (by omega) (.inl (Nat.le_refl _)) (by omega) (by have := ext_len T S i; omega) (by omega)
              · have k1 : ((c : Int) == 13) = false := by simp only [beq_eq_false_iff_ne]; omega
                have k2 : ((c : Int) == 10) = false := by simp only [beq_eq_false_iff_ne]; omega
                have k3 : ((c : Int) == 8232) = false := by simp only [beq_eq_false_iff_ne]; omega
                have k4 : ((c : Int) == 8233) = false := by simp only [beq_eq_false_iff_ne]; omega
                have hS3 : S ≤ i := by omega
                clear e1 e2 hnl hu hS'
                go_wp2_with fail
                go_roundg (T.size - (i + d))
                case measure => have := HN.out; omega
                case rel => exact ⟨i + d, S, xs, d2, rfl, rfl, HI3.out, hK3, HOW.out, .inl (by omega), hS2, hsum, hlen⟩
          · have hie : i = T.size := by omega
            have hnx := run_next_end_at (P := Tryz.prog) wr H2 T i
            have hnx2 := fun ty => hnx ty hI hlt
            obtain ⟨i0, hi0, hz0, hz1, hz2⟩ := info_parts info9
            have HOW := Lib.hid hown
            have hwnz : w.heap.size ≤ wr.heap.size := hK.size
            have j2 : (S : Int) ≤ T.size := by omega
            have j3 : (0 : Int) ≤ S := by omega
            clear hnx hS hie hown
            go_upto_region 33 with (at_builtin; refine wpList_append_lies _ rfl _ _ 174 rfl w.heap.size 9 i0 _ 1 16 Tryz.underlying174 hi0 hz0 hz1 hz2 rfl (by decide) u10 xs.length (xs.map Value.string) rfl (HOW.out.alloc _) ⟨wr.heap.size, 0, none⟩ 1 1 [.string (T.extract S T.size)] rfl rfl (World.news_of_block (cs := #[.string (T.extract S T.size)]) (t := 9) (fr := (0, 0)) (heap_alloc_new wr _)) (by simp [Value.oneCell']) (by decide) (by unfold maxLen; omega) (by omega) (by simp; omega) (wr.heap.size + 1) (by simp) ?_; intro gg cap w3 hown4 hgrow hat hlt4; have HO4 := Lib.hid hown4; have HG4 := Lib.hid hgrow; clear hown4 hgrow hat hlt4)
            obtain ⟨cur, ys, hB3, hcur, hylen, hysum, hcap, hgg, hK3⟩ := CL.row HOW.out hK HG4.out HO4.out (show sumz xs + (T.extract S T.size).size ≤ T.size by have := ext_len T S T.size; omega)
            have HCUR := Lib.hid hcur
            have hN : ys.length ≤ T.size + 1 := by omega
            obtain ⟨N, hNe⟩ : ∃ N, xs.length + 1 = N := ⟨_, rfl⟩
            have e1 : ((xs.length : Int) + 1) = (N : Nat) := by omega
            (try rw [e1])
            (try rw [hNe])
            rw [hNe] at hylen hcap
            have hN1 : 1 ≤ N := by omega
            clear hcur hI hlt hnx2 HN
            have hcap1 : cap = 1 ∨ cap ≠ 1 := by omega
            have hNs : (0 : Int) ≤ N := by omega
            rcases hcap1 with rfl | hc1
            all_goals
              have b1 : (1 : Int) ≤ N := by omega
              go_wp2_with fail
              go_loopg [7, 129] (N - 1) (fun m k j wq => C3 w gg cur ys N a m k j wq)
              case atStart => exact ⟨c0, 0, rfl, rfl, by omega, by omega, hK3, hB3, hc0, fun p x h1 h2 => by omega⟩
              case round =>
                obtain ⟨ind, j, hk, hjv, hjN, hm, hKq, hBq, hia, hmin⟩ := hrel
                subst hk hjv
                have HM := Lib.hid hm
                have HMIN := Lib.hid hmin
                have HBQ := Lib.hid hBq
                clear hm hmin hK3 hB3
                by_cases hjlt : j < N - 1
                · first
                    | (exfalso; omega)
                    | (obtain ⟨x, hx⟩ : ∃ x, ys[1 + j]? = some x := ⟨ys[1 + j]'(by omega), List.getElem?_eq_getElem (by omega)⟩
                       have cx : wr.cell? ⟨gg, 1 + j, none⟩ = some (.string x) := (blk_cell hBq (1 + j)).trans (HCUR.out _ _ hx)
                       have jj : (j : Int) < (N : Int) - 1 := by omega
                       have HX := Lib.hid hx
                       have hxs : x.size ≤ 1073741824 + 1 := by have := sumz_mem hx; omega
                       have hKi := hKq.alloc (.stringIter x 0)
                       have hIi := World.iter_heap wr x 0
                       have hBi : (wr.iter x 0).heap[gg]? = some (.cells cur 9 (0, 0)) := alloc_old _ hBq
                       have HKQ := Lib.hid hKq
                       clear hx hKq
                       go_wp2_with fail
                       obtain ⟨wi, hwi⟩ : ∃ y, wr.iter x 0 = y := ⟨_, rfl⟩
                       obtain ⟨H3, hH3⟩ : ∃ y, wr.heap.size = y := ⟨_, rfl⟩
                       have hHw3 : w.heap.size ≤ H3 := by have := HKQ.out.size; omega
                       have hne3 : gg ≠ H3 := by have := lt_of_blk HBQ.out; omega
                       replace hKi : KeepA w wi := by rw [← hwi]; exact hKi
                       replace hBi : wi.heap[gg]? = some (.cells cur 9 (0, 0)) := by rw [← hwi]; exact hBi
                       replace hIi : wi.heap[H3]? = some (.stringIter x 0) := by rw [← hwi, ← hH3]; exact hIi
                       (try rw [hwi])
                       (try rw [hH3])
                       clear hwi hH3 cx
                       go_loopg [16] x.size (fun m k wq => C4 w gg cur H3 x m k wq)
                       case atStart => exact ⟨0, rfl, Nat.zero_le _, rfl, hKi, hBi, hIi⟩
                       case round =>
                         obtain ⟨p, hpk, hpx, hpm, hKp, hBp, hIp⟩ := hrel
                         subst hpk
                         have HPM := Lib.hid hpm
                         clear hpm hKi hBi hIi
                         by_cases hplt : p < x.size
                         · obtain ⟨d1, d2⟩ := dec_fits x hplt
                           obtain ⟨e1', _⟩ := dec_wide x p
                           have hnx := fun ty => run_next_any_at (P := Tryz.prog) wr H3 x p ty hIp hplt
                           obtain ⟨c, hc⟩ : ∃ c, (Utf8.decode x p).1 = c := ⟨_, rfl⟩
                           obtain ⟨d, hd⟩ : ∃ d, (Utf8.decode x p).2 = d := ⟨_, rfl⟩
                           rw [hc, hd] at hnx e1'
                           rw [hd] at d1 d2
                           have hK4 : KeepA w (wr.iterAt H3 x (p + d)) := hKp.iterAt hHw3 x (p + d)
                           have hB4 : (wr.iterAt H3 x (p + d)).heap[gg]? = some (.cells cur 9 (0, 0)) := (iterAt_other wr H3 gg x (p + d) hne3).trans hBp
                           have hI4 : (wr.iterAt H3 x (p + d)).heap[H3]? = some (.stringIter x (p + d)) := iterAt_heap wr H3 x p (p + d) hIp
                           obtain ⟨wn, hwn⟩ : ∃ y, wr.iterAt H3 x (p + d) = y := ⟨_, rfl⟩
                           rw [hwn] at hnx hK4 hB4 hI4
                           clear hwn hc hd hKp hBp hIp
                           by_cases hbl : c = 32 ∨ c = 9
                           · have hd1 : d = 1 := e1' (by omega)
                             subst hd1
                             have hk : ((c : Int) != 32) = false ∨ (((c : Int) != 32) = true ∧ ((c : Int) != 9) = false) := by
                               rcases hbl with e | e
                               · exact .inl (by rw [e]; rfl)
                               · exact .inr ⟨by rw [e]; rfl, by rw [e]; rfl⟩
                             clear hbl e1'
                             rcases hk with k1 | ⟨k1, k2⟩
                             all_goals
                               go_wp2_with fail
                               go_roundg (x.size - (p + 1))
                               case measure => have := HPM.out; omega
                               case rel => exact ⟨p + 1, (by simp), d2, rfl, hK4, hB4, hI4⟩
                           · have k1 : ((c : Int) != 32) = true := by simp only [bne_iff_ne]; omega
                             have k2 : ((c : Int) != 9) = true := by simp only [bne_iff_ne]; omega
                             clear hbl e1'
                             by_cases hlt5 : p < ind
                             · have q1 : (p : Int) < ind := by omega
                               go_wp2_with fail
                               go_roundg (N - 1 - (j + 1))
                               case measure => have := HM.out; omega
                               case rel => exact C3.next HMIN.out HX.out hK4 hB4 (by omega) (by omega) (.inr ⟨rfl, by omega⟩) (by omega) rfl (hkv := rfl)
                             · have q1 : ¬ (p : Int) < ind := by omega
                               go_wp2_with fail
                               go_roundg (N - 1 - (j + 1))
                               case measure => have := HM.out; omega
                               case rel => exact C3.next HMIN.out HX.out hK4 hB4 (by omega) (by omega) (.inl ⟨rfl, by omega⟩) (by omega) rfl (hkv := rfl)
                         · have hnx := fun ty => run_next_end_at (P := Tryz.prog) wr H3 x p ty hIp hplt
                           have hpe : p = x.size := by omega
                           by_cases hlt5 : p < ind
                           · have q1 : (p : Int) < ind := by omega
                             clear hpe
                             go_wp2_with fail
                             go_roundg (N - 1 - (j + 1))
                             case measure => have := HM.out; omega
                             case rel => exact C3.next HMIN.out HX.out hKp hBp (by omega) (by omega) (.inr ⟨rfl, by omega⟩) (by omega) rfl (hkv := rfl)
                           · have q1 : ¬ (p : Int) < ind := by omega
                             clear hpe
                             go_wp2_with fail
                             go_roundg (N - 1 - (j + 1))
                             case measure => have := HM.out; omega
                             case rel => exact C3.next HMIN.out HX.out hKp hBp (by omega) (by omega) (.inl ⟨rfl, by omega⟩) (by omega) rfl (hkv := rfl))
                · have jj : ¬ (j : Int) < (N : Int) - 1 := by omega
                  have hjN' : j = N - 1 := by omega
                  have HMN : Hid (∀ (i : Nat) (x : ByteArray), 1 ≤ i → ys[i]? = some x → ind ≤ x.size) := Lib.hid (fun i x h1 h2 => HMIN.out i x h1 (by have := (List.getElem?_eq_some_iff.1 h2).1; omega) h2)
                  clear hjN' hjlt
                  go_wp2_with fail
                  go_loopg [153] N (fun m j wq => C5 w gg ys N (T.size) m j wq)
                  case atStart => exact ⟨0, cur, ys, rfl, Nat.zero_le _, rfl, hKq, HBQ.out, hylen, HCUR.out, fun _ _ => rfl, hysum⟩
                  case round =>
                    obtain ⟨p, cu, zs, hpj, hpN, hpm, hKp, hBp, hzl, hzc, hzy, hzs⟩ := hrel
                    subst hpj
                    have HPM := Lib.hid hpm
                    have HZC := Lib.hid hzc
                    have HZY := Lib.hid hzy
                    have HZL := Lib.hid hzl
                    clear hpm hzc hzy hzl hKq
                    by_cases hplt : p < N
                    · obtain ⟨y, hy⟩ : ∃ y, ys[p]? = some y := ⟨ys[p]'(by omega), List.getElem?_eq_getElem (by omega)⟩
                      have hzp : zs[p]? = some y := by rw [HZY.out p (Nat.le_refl _)]; exact hy
                      have cy : wr.cell? ⟨gg, p, none⟩ = some (.string y) := (blk_cell hBp p).trans (HZC.out _ _ hzp)
                      have fy := blk_frozen hBp p
                      have q1 : (p : Int) < N := by omega
                      by_cases hp0 : p = 0
                      · have q2 : ¬ (0 : Int) < p := by omega
                        have HZP := Lib.hid hzp
                        clear hp0 hy hzp
                        go_wp2_with fail
                        go_roundg (N - (p + 1))
                        case measure => have := HPM.out; omega
                        case rel => exact ⟨p + 1, cu, zs, (by simp), by omega, rfl, hKp, hBp, HZL.out, HZC.out, fun i hi => HZY.out i (by omega), hzs⟩
                      · first
                          | (exfalso; omega)
                          | (have q2 : (0 : Int) < p := by omega
                             have hind := HMN.out p y (by omega) hy
                             have q3 : (ind : Int) ≤ y.size := by omega
                             have q4 : (0 : Int) ≤ ind := by omega
                             have hys2 : y.size ≤ 1073741824 + 1 := by have := sumz_mem hy; omega
                             have HZP := Lib.hid hzp
                             clear hp0 hy hzp
                             go_wp2_with fail
                             go_roundg (N - (p + 1))
                             case measure => have := HPM.out; omega
                             case rel => exact C5.next hKp hBp HZL.out HZC.out HZY.out hzs HZP.out hplt hgg (ext_len' y ind) rfl)
                    · have q1 : ¬ (p : Int) < N := by omega
                      clear hplt
                      go_wp2_with fail
                      refine (Join_calls hBp HZL.out HZC.out hcap (by omega) (by omega) wr.heap.size rfl).mono ?_
                      rintro e' w9 ⟨R, rfl, hbel9⟩
                      go_wp2_with fail
                      (try rw [Exit.noGoto_ret])
                      go_ret
                      exact ⟨_, rfl, hKp.trans (Keep.of_below hbel9 _)⟩
end Go.Proofs.YtedckphklebndaaGreatDoor
