/- The laws' own tokenize, walked. Conditions: those of Tokenize. -/
import Derived.Test.YtedckphklebndaaGreatDoorQY7
import Derived.Test.YtedckphklebndaaGreatDoorQGP1
import Derived.Test.YtedckphklebndaaGreatDoorQGX5
import Derived.Deep.CutBlock
namespace Go.Proofs.YtedckphklebndaaGreatDoor
open Go Go.RowKit
set_option maxRecDepth 100000 in
set_option maxHeartbeats 8000000 in
theorem tok23_calls {w : World} {s : ByteArray} {l : List Int} (h : Sfx s l) (h0 : ps s l = 0) (hs : s.size ≤ 524288) (hbom : hd l ≠ 65279) (ho : (toks l).2 = false) (h2 : 2 ≤ w.heap.size) (htab : Lib.Utf8Tabs 0 1 w) :
    Calls Tryz.prog 23 #[.string s] w (TkE w.heap.size w s l) := by
  go_enter Tryz.func23, Tryz.ntmps23
  go_upto_region 1 with (fail)
  have hT0 : (w.alloc (.cells res54 54)).heap[w.heap.size]? = some (.cells res54 54 (0, 0)) := heap_alloc_new _ _
  have hK0 : KeepA w (w.alloc (.cells res54 54)) := (Keep.refl _ _).alloc _
  have hz0 : (w.alloc (.cells res54 54)).heap.size = w.heap.size + 1 := by simp
  obtain ⟨wa, hwa⟩ : ∃ x, w.alloc (.cells res54 54) = x := ⟨_, rfl⟩
  change Code.wp _ _ _ _ (w.alloc (.cells res54 54))
  rw [hwa] at hT0 hK0 hz0 ⊢
  clear hwa
  go_upto_region 2 with (go_at_call 31; refine (NewDeferLog_calls wa (w.heap.size + 1)).mono ?_; rintro e w1 ⟨kd, mu, he, ms, rfl, hlog, hb1, hkd, hmu, hhe, hms⟩; simp only [logA])
  have hL2 : ∀ o, LogB (w.heap.size + 1) kd mu he ms 0 (.slice none 0 0) (w1.alloc o) := fun o => hlog.keep ((Keep.refl (fun _ => False) w1).alloc o) (fun e => e) (fun e => e) (fun e => e) (fun e => e) (fun _ _ e => e)
  have hsz1 := hb1.size
  have hT1 : w1.heap[w.heap.size]? = some (.cells res54 54 (0, 0)) := (hb1.block _ (by omega)).trans hT0
  have hbw : Below w.heap.size w w1 := (hK0.below (Nat.le_refl _) (fun _ _ e => e.elim)).trans (Below.low hb1 (by omega))
  have htb : ∀ o, Lib.Utf8Tabs 0 1 (w1.alloc o) := fun o => tabs_keep htab ((hK0.trans (Keep.of_below hb1 (fun _ => False))).alloc o) (fun e => e) (fun e => e)
  have hsr : ∀ o, w.heap.size + 1 ≤ (w1.alloc o).heap.size := fun o => by simp; omega
  go_upto_region 2 with (fail)
  have hmu9 : w.heap.size + 1 ≤ mu := by omega
  have hhe9 : w.heap.size + 1 ≤ he := by omega
  have hms9 : w.heap.size + 1 ≤ ms := by omega
  have hx := fun o => tokenize_calls (W := w.heap.size + 1) (k := ⟨kd, mu, he, ms⟩) (X0 := ⟨#[]⟩) (X1 := ⟨#[]⟩) (X2 := ⟨#[]⟩) (X4 := ⟨#[]⟩) (X5 := ⟨#[]⟩) (X6 := ⟨#[]⟩) (X7 := ⟨#[]⟩) h h0 hs hbom ho (hL2 o) (by omega) (hsr o) ⟨hmu9, hhe9, hms9⟩ (htb o)
  go_wp2_with (first
    | (go_at_call 32; refine (hx _).mono ?_; rintro e w3 ⟨dn, a, b, c, d, e1, f1, x, rfl, hall, hown, hFL, hmap, hb3⟩; have hT3 : w3.heap[w.heap.size]? = some (.cells res54 54 (0, 0)) := (hb3.block _ (by omega)).trans (alloc_old _ hT1))
    | (refine wpList_store_row rfl 54 _ _ rfl w.heap.size #[a, b, c, d, e1, f1, x] rfl rfl 54 res54 hT3 (by kernel_rfl) rfl hall ?_))
  have hrow := setRow_heap _ w.heap.size _ #[a, b, c, d, e1, f1, x] _ _ hT3
  have hk : Keep (fun j => j = w.heap.size) w3 (w3.setRow w.heap.size #[a, b, c, d, e1, f1, x]) := ⟨rfl, rfl, rfl, by simp [World.setRow], fun j _ hn => setRow_other _ _ _ _ hn⟩
  refine bodyPost_ret (v := .agg #[a, b, c, d, e1, f1, x]) (by simp [results, Tryz.results23, go_sem, blk_cell hrow]) rfl ?_
  refine ⟨dn, a, b, c, d, e1, f1, x, rfl, hall, ownsRow_low (hk.own hown (fun j e1 e2 => own_ne hown hT3 (by decide) (by rw [e1, e2]))) (by omega), hFL, hmap, ?_⟩
  refine ((hbw.trans ?_).trans (Below.low hb3 (by omega))).trans (hk.below (by have := hb3.size; simp at this; omega) (fun _ _ e => Nat.le_of_eq e.symm))
  exact ((Keep.refl (fun _ => False) w1).alloc _).below (by omega) (fun _ _ e => e.elim)
end Go.Proofs.YtedckphklebndaaGreatDoor
/- The package's decodeEscapesInToken, walked. Conditions: a plain text of at most 2^30 bytes; the tables of unicode/utf8 lie in blocks 0 and 1. -/
namespace Go.Proofs.YtedckphklebndaaGreatDoor
open Go Go.RowKit
theorem bytes_eq {a b : ByteArray} (h : a.data.toList = b.data.toList) : a = b := by
  obtain ⟨⟨a⟩⟩ := a
  obtain ⟨⟨b⟩⟩ := b
  simp only at h
  rw [h]
/-- A whole text. -/
structure Wt (X : ByteArray) (l : List Int) : Prop where
  by_ : X.data.toList = encs l
  all : RnAll l
theorem Wt.sfx {X : ByteArray} {l : List Int} (h : Wt X l) : Sfx X l := ⟨⟨[], by simpa using h.by_⟩, h.all⟩
theorem Wt.size {X : ByteArray} {l : List Int} (h : Wt X l) : X.size = (encs l).length := by rw [← h.by_]; simp
theorem Wt.ps {X : ByteArray} {l : List Int} (h : Wt X l) : ps X l = 0 := by unfold Proofs.YtedckphklebndaaGreatDoor.ps; rw [h.size]; omega
theorem Wt.whole {X : ByteArray} {l : List Int} (_h : Wt X l) : X.extract 0 X.size = X := bytes_eq (by rw [Lib.extract_data, List.drop_zero, Nat.sub_zero]; exact List.take_of_length_le (by simp))
theorem Wt.dec {X : ByteArray} {l : List Int} (h : Wt X l) (w : World) (hT : Lib.Utf8Tabs 0 1 w) :
    Calls Tryz.prog 59 #[.string X] w fun e w' => e = .returned (.tuple #[.int .i32 (rn l), .int .i64 (wdl l)]) ∧ Below w.heap.size w w' := by
  have := dec_sfx h.sfx w hT
  rw [h.ps, h.whole] at this
  exact this
theorem Wt.cut {X : ByteArray} {l : List Int} (h : Wt X l) {n : Nat} (hn : n = wdl l) : Wt (X.extract n X.size) l.tail := by
  subst hn
  cases l with
  | nil =>
    refine ⟨?_, h.all⟩
    rw [Lib.extract_data, h.by_]; simp [encs]
  | cons c t =>
    refine ⟨?_, h.all.tail⟩
    have hl : X.data.toList.length = X.size := by simp
    rw [Lib.extract_data, List.take_of_length_le (by rw [List.length_drop]; omega), h.by_]
    show (enc c ++ encs t).drop (wd c) = encs t
    exact List.drop_left
theorem Wt.wdl_le {X : ByteArray} {l : List Int} (h : Wt X l) : wdl l ≤ X.size := by
  rw [h.size]
  cases l with
  | nil => exact Nat.zero_le _
  | cons c t => show wd c ≤ _; simp only [encs, List.length_append]; unfold wd; omega
theorem Wt.pos {X : ByteArray} {l : List Int} (h : Wt X l) : 0 < X.size ↔ l ≠ [] := by
  rw [h.size]
  constructor
  · rintro e rfl; simp [encs] at e
  · intro e
    cases l with
    | nil => exact absurd rfl e
    | cons c t => have := (wd_pos c).1; unfold wd at this; simp only [encs, List.length_append]; omega
theorem rn_of {l : List Int} (h : l ≠ []) : rn l = hd l := if_neg h
theorem decF_len (l : List Int) : (decF l).length ≤ 4 * l.length := by
  induction hn : l.length using Nat.strongRecOn generalizing l with
  | _ n ih =>
    have e4 : ∀ c : Int, (enc c).length ≤ 4 := fun c => (wd_pos c).2
    cases l with
    | nil => rw [decF_nil]; simp
    | cons c t =>
      simp only [List.length_cons] at hn
      by_cases h : c = 92
      · subst h
        by_cases h0 : t = []
        · subst h0; rw [decF_end]; have := e4 65533; simp only [List.length_nil] at hn; omega
        · by_cases h1 : 0 ≤ hexv (hd t)
          · have hl1 := hexs_le 6 0 t
            have hl2 := skSp_le (hexs 6 0 t).2
            have := ih (skSp (hexs 6 0 t).2).length (by omega) _ rfl
            have := e4 (escVal (hexs 6 0 t).1)
            rw [decF_hex h1, List.length_append]
            omega
          · by_cases h2 : isNL (hd t) = true
            · have hl1 := nlTake_le t
              have := ih (nlTake t).length (by omega) _ rfl
              rw [decF_nl h2]
              omega
            · have hl1 : t.tail.length ≤ t.length := by simp
              have := ih t.tail.length (by omega) _ rfl
              have := e4 (hd t)
              rw [decF_one h0 (by omega) (by simpa using h2), List.length_append]
              omega
      · have := ih t.length (by omega) _ rfl
        have := e4 c
        rw [decF_plain h, List.length_append]
        omega
/-- The loop over bytes without escapes. -/
def DB (T : ByteArray) (l : List Int) (w0 : World) (k : Nat) (a : Value) (w : World) : Prop :=
  w = w0 ∧ ∃ i q t, a = .int .i64 (i : Nat) ∧ k = T.size - i ∧ BY T i q t ∧ T.data.toList.take i ++ (q ++ decF t) = decF l
theorem DB.step {T : ByteArray} {i : Nat} (hi : i < T.size) {b : UInt8} (hb : T[i]'hi = b) (x : List UInt8) : T.data.toList.take (i + 1) ++ x = T.data.toList.take i ++ (b :: x) := by
  have h1 := list_get_ba T i hi
  rw [List.take_add_one, h1, hb]
  simp
theorem Wt.cut_le {X : ByteArray} (n : Nat) : (X.extract n X.size).size ≤ X.size := by rw [ByteArray.size_extract]; omega
/-- The Builder, and what has been kept. -/
structure BK (w0 w : World) (b : Nat) (out : List UInt8) : Prop where
  bf : Lib.IsBuilderF 126 5 b b (Lib.byteCells out) w
  kp : Keep (fun k => b ≤ k) w0 w
  hb : b ≤ w.heap.size
theorem BK.quiet {w0 w w1 : World} {b : Nat} {out : List UInt8} (h : BK w0 w b out) (k : Below w.heap.size w w1) : BK w0 w1 b out :=
  ⟨builder_keep h.bf (Keep.of_below k (fun _ => False)) (fun _ _ e => e), h.kp.trans (Keep.of_below k _), Nat.le_trans h.hb k.size⟩
theorem Keep.of_belowB {w w1 : World} {b : Nat} (h : Below b w w1) : Keep (fun k => b ≤ k) w w1 :=
  ⟨h.os, h.tape, h.output, h.size, fun k _ hn => h.block k (by omega)⟩
theorem BK.rune {w0 w w1 : World} {b : Nat} {out : List UInt8} {r : Int} (h : BK w0 w b out) (hb4 : Lib.BuilderAtF 126 5 b b (.pointer (some ⟨b, 0, none⟩)) (Lib.byteCells out ++ Lib.runeCells r) w1) (k : Below b w w1) : BK w0 w1 b (out ++ enc r) :=
  ⟨wrote hb4, h.kp.trans (Keep.of_belowB k), Nat.le_trans h.hb k.size⟩
theorem BK.tabs {w0 w : World} {b : Nat} {out : List UInt8} (h : BK w0 w b out) (hU : Lib.Utf8Tabs 0 1 w0) (h2 : 2 ≤ b) : Lib.Utf8Tabs 0 1 w := tabs_keep hU h.kp (by omega) (by omega)
def loopsOf : Code → List Code
  | .loop c => [c]
  | .seq a b => loopsOf a ++ loopsOf b
  | .block _ c => loopsOf c
  | .scope c => loopsOf c
  | .cond _ a b => loopsOf a ++ loopsOf b
  | _ => []
noncomputable def decBody : Code := (((Tryz.f33.body.map loopsOf).getD [])[1]?).getD .skip
/-- The frame: what is left of the text, the Builder, and whatever. -/
def DcF (b : Nat) (X : ByteArray) (a : Act) : Prop := a.defers = [] ∧ a.tmps.size = 156 ∧ a.tmps[0]? = some (.string X) ∧ a.tmps[5]? = some (.pointer (some ⟨b, 0, none⟩))
/-- So much is left at most. -/
def DcI (T : List UInt8) (w0 : World) (b : Nat) (k : Nat) (a : Act) (w : World) : Prop :=
  ∃ X l out, DcF b X a ∧ Wt X l ∧ k = l.length ∧ X.size ≤ 1073741824 ∧ out ++ decF l = T ∧ BK w0 w b out
/-- What a round leaves. -/
def DcR (T : List UInt8) (w0 : World) (b n : Nat) (e : Exit) (a : Act) (w : World) : Prop :=
  (e = .normal ∧ ∃ k, k < n ∧ DcI T w0 b k a w) ∨ (e = .exit 2 ∧ ∃ X, DcF b X a ∧ BK w0 w b T)
theorem DcR.go {T : List UInt8} {w0 w : World} {b n : Nat} {X : ByteArray} {l : List Int} {out : List UInt8} {a : Act} (hf : DcF b X a) (hX : Wt X l) (hn : l.length < n) (hs : X.size ≤ 1073741824) (hd : out ++ decF l = T) (hB : BK w0 w b out) : DcR T w0 b n .normal a w :=
  .inl ⟨rfl, l.length, hn, X, l, out, hf, hX, rfl, hs, hd, hB⟩
theorem hxb_false {c : Int} (h : ¬ 0 ≤ hexv c) : hxb c = false := by unfold hxb; exact decide_eq_false h
theorem hxb_true {c : Int} (h : 0 ≤ hexv c) : hxb c = true := by unfold hxb; exact decide_eq_true h
/-- The loop over digits. -/
def DX (t : List Int) (w0 : World) (b : Nat) (out : List UInt8) (k : Nat) (a v j : Value) (w : World) : Prop :=
  ∃ X l' x, k ≤ 5 ∧ a = .string X ∧ Wt X l' ∧ X.size ≤ 1073741824 ∧ v = .int .i64 x ∧ j = .int .i64 (5 - (k : Int)) ∧ 0 ≤ x ∧ x < 16 ^ (6 - k) ∧ hexs k x l' = hexs 6 0 t ∧ BK w0 w b out
theorem DX.next {t : List Int} {w0 : World} {b : Nat} {out : List UInt8} {n : Nat} {X : ByteArray} {l' : List Int} {x : Int} {w : World} {a v j : Value} (hn : n + 1 ≤ 5) (h0 : 0 ≤ x) (h1 : x < 16 ^ (6 - (n + 1))) (he : hexs (n + 1) x l' = hexs 6 0 t) (hv : 0 ≤ hexv (hd l'))
    (ha : a = .string X) (hX : Wt X l'.tail) (hs : X.size ≤ 1073741824) (hb : v = .int .i64 (x * 16 + hexv (hd l'))) (hj : j = .int .i64 (5 - ((n : Int) + 1) + 1)) (hB : BK w0 w b out) : DX t w0 b out n a v j w := by
  have := hexv_lt (hd l')
  refine ⟨X, l'.tail, x * 16 + hexv (hd l'), by omega, ha, hX, hs, hb, by rw [hj]; congr 1; omega, by omega, ?_, by rw [← he, hexs_go hv], hB⟩
  have e : 6 - n = (6 - (n + 1)) + 1 := by omega
  rw [e, Int.pow_succ]
  omega
set_option maxRecDepth 1000000 in
set_option maxHeartbeats 16000000 in
theorem dc_plain {T : List UInt8} {w0 w : World} {b : Nat} {X : ByteArray} {out : List UInt8} {c : Int} {t : List Int} (hX : Wt X (c :: t)) (hs : X.size ≤ 1073741824) (hd : out ++ decF (c :: t) = T) (hT : T.length ≤ 4294967296) (hB : BK w0 w b out) (hU : Lib.Utf8Tabs 0 1 w0) (h2 : 2 ≤ b) (hc : c ≠ 92) (f : Nat → Value) :
    Code.wp Tryz.prog decBody (DcR T w0 b (c :: t).length) ⟨#[.string X, f 1, f 2, f 3, f 4, .pointer (some ⟨b, 0, none⟩), f 6, f 7, f 8, f 9, f 10, f 11, f 12, f 13, f 14, f 15, f 16, f 17, f 18, f 19, f 20, f 21, f 22, f 23, f 24, f 25, f 26, f 27, f 28, f 29, f 30, f 31, f 32, f 33, f 34, f 35, f 36, f 37, f 38, f 39, f 40, f 41, f 42, f 43, f 44, f 45, f 46, f 47, f 48, f 49, f 50, f 51, f 52, f 53, f 54, f 55, f 56, f 57, f 58, f 59, f 60, f 61, f 62, f 63, f 64, f 65, f 66, f 67, f 68, f 69, f 70, f 71, f 72, f 73, f 74, f 75, f 76, f 77, f 78, f 79, f 80, f 81, f 82, f 83, f 84, f 85, f 86, f 87, f 88, f 89, f 90, f 91, f 92, f 93, f 94, f 95, f 96, f 97, f 98, f 99, f 100, f 101, f 102, f 103, f 104, f 105, f 106, f 107, f 108, f 109, f 110, f 111, f 112, f 113, f 114, f 115, f 116, f 117, f 118, f 119, f 120, f 121, f 122, f 123, f 124, f 125, f 126, f 127, f 128, f 129, f 130, f 131, f 132, f 133, f 134, f 135, f 136, f 137, f 138, f 139, f 140, f 141, f 142, f 143, f 144, f 145, f 146, f 147, f 148, f 149, f 150, f 151, f 152, f 153, f 154, f 155], []⟩ w := by
  conv => arg 2; whnf
  have hol : out.length ≤ 4294967296 := by
    have e := congrArg List.length hd
    rw [List.length_append] at e
    omega
  have HDC := Lib.hid hd
  have hU2 := hB.tabs hU h2
  clear hd
  have hXp : 0 < X.size := hX.pos.2 (by simp)
  have hd1 := hX.dec w hU2
  rw [rn_of (by simp), hd_cons] at hd1
  have hw1 := hX.wdl_le
  have hr := hX.all.head
  obtain ⟨hr1, hr2, _⟩ := hr
  obtain ⟨n, hn⟩ : ∃ n, wdl (c :: t) = n := ⟨_, rfl⟩
  rw [hn] at hd1 hw1
  have HX1 : Hid (Wt (X.extract n X.size) t) := Lib.hid (hX.cut hn.symm)
  have HS1 : Hid ((X.extract n X.size).size ≤ 1073741824) := Lib.hid (Nat.le_trans (Wt.cut_le n) hs)
  clear hX hn
  go_wp2_with fail
  refine hd1.mono ?_
  rintro e w1 ⟨rfl, hbel1⟩
  have hBK1 := hB.quiet hbel1
  clear hd1 hbel1 hB hU2
  go_upto_region 14 with (fail)
  obtain ⟨X1, hX1⟩ : ∃ x, X.extract n X.size = x := ⟨_, rfl⟩
  rw [hX1]
  rw [hX1] at HX1 HS1
  clear hX1 hw1 hXp
  have k1 : (c == 92) = false := by simp [hc]
  have k1' : (c != 92) = true := by simp [hc]
  have k2 : (c == 0) = false := by simp only [beq_eq_false_iff_ne]; omega
  have HC := Lib.hid hc
  clear hc
  go_wp2_with fail
  refine (Tryz.Builder_WriteRune_k b b (Lib.byteCells out) c (by omega) (by omega) _ hBK1.bf (by rw [Lib.byteCells_length]; omega) hBK1.hb).mono ?_
  rintro e w9 ⟨rfl, hb9, hbel9, _⟩
  have hBK9 := hBK1.rune hb9 hbel9
  clear hb9 hbel9 hBK1
  go_wp2_with fail
  exact DcR.go (X := X1) (l := t) ⟨rfl, rfl, rfl, rfl⟩ HX1.out (by simp <;> omega) HS1.out (by rw [← HDC.out, decF_plain HC.out, List.append_assoc]) hBK9
set_option maxRecDepth 1000000 in
set_option maxHeartbeats 16000000 in
theorem dc_end {T : List UInt8} {w0 w : World} {b : Nat} {X : ByteArray} {out : List UInt8} (hX : Wt X ([92])) (hs : X.size ≤ 1073741824) (hd : out ++ decF ([92]) = T) (hT : T.length ≤ 4294967296) (hB : BK w0 w b out) (hU : Lib.Utf8Tabs 0 1 w0) (h2 : 2 ≤ b) (f : Nat → Value) :
    Code.wp Tryz.prog decBody (DcR T w0 b ([92]).length) ⟨#[.string X, f 1, f 2, f 3, f 4, .pointer (some ⟨b, 0, none⟩), f 6, f 7, f 8, f 9, f 10, f 11, f 12, f 13, f 14, f 15, f 16, f 17, f 18, f 19, f 20, f 21, f 22, f 23, f 24, f 25, f 26, f 27, f 28, f 29, f 30, f 31, f 32, f 33, f 34, f 35, f 36, f 37, f 38, f 39, f 40, f 41, f 42, f 43, f 44, f 45, f 46, f 47, f 48, f 49, f 50, f 51, f 52, f 53, f 54, f 55, f 56, f 57, f 58, f 59, f 60, f 61, f 62, f 63, f 64, f 65, f 66, f 67, f 68, f 69, f 70, f 71, f 72, f 73, f 74, f 75, f 76, f 77, f 78, f 79, f 80, f 81, f 82, f 83, f 84, f 85, f 86, f 87, f 88, f 89, f 90, f 91, f 92, f 93, f 94, f 95, f 96, f 97, f 98, f 99, f 100, f 101, f 102, f 103, f 104, f 105, f 106, f 107, f 108, f 109, f 110, f 111, f 112, f 113, f 114, f 115, f 116, f 117, f 118, f 119, f 120, f 121, f 122, f 123, f 124, f 125, f 126, f 127, f 128, f 129, f 130, f 131, f 132, f 133, f 134, f 135, f 136, f 137, f 138, f 139, f 140, f 141, f 142, f 143, f 144, f 145, f 146, f 147, f 148, f 149, f 150, f 151, f 152, f 153, f 154, f 155], []⟩ w := by
  conv => arg 2; whnf
  have hol : out.length ≤ 4294967296 := by
    have e := congrArg List.length hd
    rw [List.length_append] at e
    omega
  have HDC := Lib.hid hd
  have hU2 := hB.tabs hU h2
  clear hd
  have hXp : 0 < X.size := hX.pos.2 (by simp)
  have hd1 := hX.dec w hU2
  rw [rn_of (by simp), hd_cons] at hd1
  have hw1 := hX.wdl_le
  have hr := hX.all.head
  obtain ⟨hr1, hr2, _⟩ := hr
  obtain ⟨n, hn⟩ : ∃ n, wdl ([92]) = n := ⟨_, rfl⟩
  rw [hn] at hd1 hw1
  have HX1 : Hid (Wt (X.extract n X.size) []) := Lib.hid (hX.cut hn.symm)
  have HS1 : Hid ((X.extract n X.size).size ≤ 1073741824) := Lib.hid (Nat.le_trans (Wt.cut_le n) hs)
  clear hX hn
  go_wp2_with fail
  refine hd1.mono ?_
  rintro e w1 ⟨rfl, hbel1⟩
  have hBK1 := hB.quiet hbel1
  clear hd1 hbel1 hB hU2
  go_upto_region 14 with (fail)
  obtain ⟨X1, hX1⟩ : ∃ x, X.extract n X.size = x := ⟨_, rfl⟩
  rw [hX1]
  rw [hX1] at HX1 HS1
  clear hX1 hw1 hXp
  have hz : X1.size = 0 := by rw [HX1.out.size]; rfl
  go_wp2_with fail
  refine (Tryz.Builder_WriteRune_k b b (Lib.byteCells out) 65533 (by omega) (by omega) _ hBK1.bf (by rw [Lib.byteCells_length]; omega) hBK1.hb).mono ?_
  rintro e w9 ⟨rfl, hb9, hbel9, _⟩
  have hBK9 := hBK1.rune hb9 hbel9
  clear hb9 hbel9 hBK1
  go_wp2_with fail
  exact DcR.go (X := X1) (l := []) ⟨rfl, rfl, rfl, rfl⟩ HX1.out (by simp) HS1.out (by rw [← HDC.out, decF_end, decF_nil, List.append_nil]) hBK9
set_option maxRecDepth 1000000 in
set_option maxHeartbeats 16000000 in
theorem dc_nl10 {T : List UInt8} {w0 w : World} {b : Nat} {X : ByteArray} {out : List UInt8} {d : Int} {u : List Int} (hX : Wt X (92 :: d :: u)) (hs : X.size ≤ 1073741824) (hd : out ++ decF (92 :: d :: u) = T) (hT : T.length ≤ 4294967296) (hB : BK w0 w b out) (hU : Lib.Utf8Tabs 0 1 w0) (h2 : 2 ≤ b) (hx : d = 10) (f : Nat → Value) :
    Code.wp Tryz.prog decBody (DcR T w0 b (92 :: d :: u).length) ⟨#[.string X, f 1, f 2, f 3, f 4, .pointer (some ⟨b, 0, none⟩), f 6, f 7, f 8, f 9, f 10, f 11, f 12, f 13, f 14, f 15, f 16, f 17, f 18, f 19, f 20, f 21, f 22, f 23, f 24, f 25, f 26, f 27, f 28, f 29, f 30, f 31, f 32, f 33, f 34, f 35, f 36, f 37, f 38, f 39, f 40, f 41, f 42, f 43, f 44, f 45, f 46, f 47, f 48, f 49, f 50, f 51, f 52, f 53, f 54, f 55, f 56, f 57, f 58, f 59, f 60, f 61, f 62, f 63, f 64, f 65, f 66, f 67, f 68, f 69, f 70, f 71, f 72, f 73, f 74, f 75, f 76, f 77, f 78, f 79, f 80, f 81, f 82, f 83, f 84, f 85, f 86, f 87, f 88, f 89, f 90, f 91, f 92, f 93, f 94, f 95, f 96, f 97, f 98, f 99, f 100, f 101, f 102, f 103, f 104, f 105, f 106, f 107, f 108, f 109, f 110, f 111, f 112, f 113, f 114, f 115, f 116, f 117, f 118, f 119, f 120, f 121, f 122, f 123, f 124, f 125, f 126, f 127, f 128, f 129, f 130, f 131, f 132, f 133, f 134, f 135, f 136, f 137, f 138, f 139, f 140, f 141, f 142, f 143, f 144, f 145, f 146, f 147, f 148, f 149, f 150, f 151, f 152, f 153, f 154, f 155], []⟩ w := by
  conv => arg 2; whnf
  have hol : out.length ≤ 4294967296 := by
    have e := congrArg List.length hd
    rw [List.length_append] at e
    omega
  have HDC := Lib.hid hd
  have hU2 := hB.tabs hU h2
  clear hd
  have hXp : 0 < X.size := hX.pos.2 (by simp)
  have hd1 := hX.dec w hU2
  rw [rn_of (by simp), hd_cons] at hd1
  have hw1 := hX.wdl_le
  have hr := hX.all.head
  obtain ⟨hr1, hr2, _⟩ := hr
  obtain ⟨n, hn⟩ : ∃ n, wdl (92 :: d :: u) = n := ⟨_, rfl⟩
  rw [hn] at hd1 hw1
  have HX1 : Hid (Wt (X.extract n X.size) (d :: u)) := Lib.hid (hX.cut hn.symm)
  have HS1 : Hid ((X.extract n X.size).size ≤ 1073741824) := Lib.hid (Nat.le_trans (Wt.cut_le n) hs)
  clear hX hn
  go_wp2_with fail
  refine hd1.mono ?_
  rintro e w1 ⟨rfl, hbel1⟩
  have hBK1 := hB.quiet hbel1
  clear hd1 hbel1 hB hU2
  go_upto_region 14 with (fail)
  obtain ⟨X1, hX1⟩ : ∃ x, X.extract n X.size = x := ⟨_, rfl⟩
  rw [hX1]
  rw [hX1] at HX1 HS1
  clear hX1 hw1 hXp
  have hX1p : 0 < X1.size := HX1.out.pos.2 (by simp)
  have hz : ((X1.size : Int) == 0) = false := by simp only [beq_eq_false_iff_ne]; omega
  have hd2 := HX1.out.dec w1 (hBK1.tabs hU h2)
  rw [rn_of (by simp), hd_cons] at hd2
  have hw2 := HX1.out.wdl_le
  obtain ⟨r1, r2, _⟩ := HX1.out.all.head
  obtain ⟨m, hm⟩ : ∃ m, wdl (d :: u) = m := ⟨_, rfl⟩
  rw [hm] at hd2 hw2
  have HX2 : Hid (Wt (X1.extract m X1.size) u) := Lib.hid (HX1.out.cut hm.symm)
  have HS2 : Hid ((X1.extract m X1.size).size ≤ 1073741824) := Lib.hid (Nat.le_trans (Wt.cut_le m) HS1.out)
  clear hm HX1
  go_wp2_with fail
  refine hd2.mono ?_
  rintro e w3 ⟨rfl, hbel3⟩
  have hBK3 := hBK1.quiet hbel3
  clear hd2 hbel3 hBK1
  go_upto_region 22 with (fail)
  obtain ⟨X2, hX2⟩ : ∃ x, X1.extract m X1.size = x := ⟨_, rfl⟩
  rw [hX2]
  rw [hX2] at HX2 HS2
  clear hX2 hw2 hX1p hz HS1
  have HN : Hid (decF (92 :: d :: u) = decF u) := Lib.hid (by
    rw [decF_nl (by rw [hd_cons, hx]; rfl)]
    simp [nlTake, hx])
  subst hx
  have k1 : hxb 10 = false := rfl
  go_wp2_with (go_at_call 61; refine (isHex_calls _ _).mono ?_; rintro e w' ⟨rfl, rfl⟩)
  exact DcR.go (X := X2) (l := u) ⟨rfl, rfl, rfl, rfl⟩ HX2.out (by simp <;> omega) HS2.out (by rw [← HDC.out, HN.out]) hBK3
set_option maxRecDepth 1000000 in
set_option maxHeartbeats 16000000 in
theorem dc_nl12 {T : List UInt8} {w0 w : World} {b : Nat} {X : ByteArray} {out : List UInt8} {d : Int} {u : List Int} (hX : Wt X (92 :: d :: u)) (hs : X.size ≤ 1073741824) (hd : out ++ decF (92 :: d :: u) = T) (hT : T.length ≤ 4294967296) (hB : BK w0 w b out) (hU : Lib.Utf8Tabs 0 1 w0) (h2 : 2 ≤ b) (hx : d = 12) (f : Nat → Value) :
    Code.wp Tryz.prog decBody (DcR T w0 b (92 :: d :: u).length) ⟨#[.string X, f 1, f 2, f 3, f 4, .pointer (some ⟨b, 0, none⟩), f 6, f 7, f 8, f 9, f 10, f 11, f 12, f 13, f 14, f 15, f 16, f 17, f 18, f 19, f 20, f 21, f 22, f 23, f 24, f 25, f 26, f 27, f 28, f 29, f 30, f 31, f 32, f 33, f 34, f 35, f 36, f 37, f 38, f 39, f 40, f 41, f 42, f 43, f 44, f 45, f 46, f 47, f 48, f 49, f 50, f 51, f 52, f 53, f 54, f 55, f 56, f 57, f 58, f 59, f 60, f 61, f 62, f 63, f 64, f 65, f 66, f 67, f 68, f 69, f 70, f 71, f 72, f 73, f 74, f 75, f 76, f 77, f 78, f 79, f 80, f 81, f 82, f 83, f 84, f 85, f 86, f 87, f 88, f 89, f 90, f 91, f 92, f 93, f 94, f 95, f 96, f 97, f 98, f 99, f 100, f 101, f 102, f 103, f 104, f 105, f 106, f 107, f 108, f 109, f 110, f 111, f 112, f 113, f 114, f 115, f 116, f 117, f 118, f 119, f 120, f 121, f 122, f 123, f 124, f 125, f 126, f 127, f 128, f 129, f 130, f 131, f 132, f 133, f 134, f 135, f 136, f 137, f 138, f 139, f 140, f 141, f 142, f 143, f 144, f 145, f 146, f 147, f 148, f 149, f 150, f 151, f 152, f 153, f 154, f 155], []⟩ w := by
  conv => arg 2; whnf
  have hol : out.length ≤ 4294967296 := by
    have e := congrArg List.length hd
    rw [List.length_append] at e
    omega
  have HDC := Lib.hid hd
  have hU2 := hB.tabs hU h2
  clear hd
  have hXp : 0 < X.size := hX.pos.2 (by simp)
  have hd1 := hX.dec w hU2
  rw [rn_of (by simp), hd_cons] at hd1
  have hw1 := hX.wdl_le
  have hr := hX.all.head
  obtain ⟨hr1, hr2, _⟩ := hr
  obtain ⟨n, hn⟩ : ∃ n, wdl (92 :: d :: u) = n := ⟨_, rfl⟩
  rw [hn] at hd1 hw1
  have HX1 : Hid (Wt (X.extract n X.size) (d :: u)) := Lib.hid (hX.cut hn.symm)
  have HS1 : Hid ((X.extract n X.size).size ≤ 1073741824) := Lib.hid (Nat.le_trans (Wt.cut_le n) hs)
  clear hX hn
  go_wp2_with fail
  refine hd1.mono ?_
  rintro e w1 ⟨rfl, hbel1⟩
  have hBK1 := hB.quiet hbel1
  clear hd1 hbel1 hB hU2
  go_upto_region 14 with (fail)
  obtain ⟨X1, hX1⟩ : ∃ x, X.extract n X.size = x := ⟨_, rfl⟩
  rw [hX1]
  rw [hX1] at HX1 HS1
  clear hX1 hw1 hXp
  have hX1p : 0 < X1.size := HX1.out.pos.2 (by simp)
  have hz : ((X1.size : Int) == 0) = false := by simp only [beq_eq_false_iff_ne]; omega
  have hd2 := HX1.out.dec w1 (hBK1.tabs hU h2)
  rw [rn_of (by simp), hd_cons] at hd2
  have hw2 := HX1.out.wdl_le
  obtain ⟨r1, r2, _⟩ := HX1.out.all.head
  obtain ⟨m, hm⟩ : ∃ m, wdl (d :: u) = m := ⟨_, rfl⟩
  rw [hm] at hd2 hw2
  have HX2 : Hid (Wt (X1.extract m X1.size) u) := Lib.hid (HX1.out.cut hm.symm)
  have HS2 : Hid ((X1.extract m X1.size).size ≤ 1073741824) := Lib.hid (Nat.le_trans (Wt.cut_le m) HS1.out)
  clear hm HX1
  go_wp2_with fail
  refine hd2.mono ?_
  rintro e w3 ⟨rfl, hbel3⟩
  have hBK3 := hBK1.quiet hbel3
  clear hd2 hbel3 hBK1
  go_upto_region 22 with (fail)
  obtain ⟨X2, hX2⟩ : ∃ x, X1.extract m X1.size = x := ⟨_, rfl⟩
  rw [hX2]
  rw [hX2] at HX2 HS2
  clear hX2 hw2 hX1p hz HS1
  have HN : Hid (decF (92 :: d :: u) = decF u) := Lib.hid (by
    rw [decF_nl (by rw [hd_cons, hx]; rfl)]
    simp [nlTake, hx])
  subst hx
  have k1 : hxb 12 = false := rfl
  go_wp2_with (go_at_call 61; refine (isHex_calls _ _).mono ?_; rintro e w' ⟨rfl, rfl⟩)
  exact DcR.go (X := X2) (l := u) ⟨rfl, rfl, rfl, rfl⟩ HX2.out (by simp <;> omega) HS2.out (by rw [← HDC.out, HN.out]) hBK3
set_option maxRecDepth 1000000 in
set_option maxHeartbeats 16000000 in
theorem dc_cr {T : List UInt8} {w0 w : World} {b : Nat} {X : ByteArray} {out : List UInt8} {d : Int} {u : List Int} (hX : Wt X (92 :: d :: u)) (hs : X.size ≤ 1073741824) (hd : out ++ decF (92 :: d :: u) = T) (hT : T.length ≤ 4294967296) (hB : BK w0 w b out) (hU : Lib.Utf8Tabs 0 1 w0) (h2 : 2 ≤ b) (hx : d = 13) (f : Nat → Value) :
    Code.wp Tryz.prog decBody (DcR T w0 b (92 :: d :: u).length) ⟨#[.string X, f 1, f 2, f 3, f 4, .pointer (some ⟨b, 0, none⟩), f 6, f 7, f 8, f 9, f 10, f 11, f 12, f 13, f 14, f 15, f 16, f 17, f 18, f 19, f 20, f 21, f 22, f 23, f 24, f 25, f 26, f 27, f 28, f 29, f 30, f 31, f 32, f 33, f 34, f 35, f 36, f 37, f 38, f 39, f 40, f 41, f 42, f 43, f 44, f 45, f 46, f 47, f 48, f 49, f 50, f 51, f 52, f 53, f 54, f 55, f 56, f 57, f 58, f 59, f 60, f 61, f 62, f 63, f 64, f 65, f 66, f 67, f 68, f 69, f 70, f 71, f 72, f 73, f 74, f 75, f 76, f 77, f 78, f 79, f 80, f 81, f 82, f 83, f 84, f 85, f 86, f 87, f 88, f 89, f 90, f 91, f 92, f 93, f 94, f 95, f 96, f 97, f 98, f 99, f 100, f 101, f 102, f 103, f 104, f 105, f 106, f 107, f 108, f 109, f 110, f 111, f 112, f 113, f 114, f 115, f 116, f 117, f 118, f 119, f 120, f 121, f 122, f 123, f 124, f 125, f 126, f 127, f 128, f 129, f 130, f 131, f 132, f 133, f 134, f 135, f 136, f 137, f 138, f 139, f 140, f 141, f 142, f 143, f 144, f 145, f 146, f 147, f 148, f 149, f 150, f 151, f 152, f 153, f 154, f 155], []⟩ w := by
  conv => arg 2; whnf
  have hol : out.length ≤ 4294967296 := by
    have e := congrArg List.length hd
    rw [List.length_append] at e
    omega
  have HDC := Lib.hid hd
  have hU2 := hB.tabs hU h2
  clear hd
  have hXp : 0 < X.size := hX.pos.2 (by simp)
  have hd1 := hX.dec w hU2
  rw [rn_of (by simp), hd_cons] at hd1
  have hw1 := hX.wdl_le
  have hr := hX.all.head
  obtain ⟨hr1, hr2, _⟩ := hr
  obtain ⟨n, hn⟩ : ∃ n, wdl (92 :: d :: u) = n := ⟨_, rfl⟩
  rw [hn] at hd1 hw1
  have HX1 : Hid (Wt (X.extract n X.size) (d :: u)) := Lib.hid (hX.cut hn.symm)
  have HS1 : Hid ((X.extract n X.size).size ≤ 1073741824) := Lib.hid (Nat.le_trans (Wt.cut_le n) hs)
  clear hX hn
  go_wp2_with fail
  refine hd1.mono ?_
  rintro e w1 ⟨rfl, hbel1⟩
  have hBK1 := hB.quiet hbel1
  clear hd1 hbel1 hB hU2
  go_upto_region 14 with (fail)
  obtain ⟨X1, hX1⟩ : ∃ x, X.extract n X.size = x := ⟨_, rfl⟩
  rw [hX1]
  rw [hX1] at HX1 HS1
  clear hX1 hw1 hXp
  have hX1p : 0 < X1.size := HX1.out.pos.2 (by simp)
  have hz : ((X1.size : Int) == 0) = false := by simp only [beq_eq_false_iff_ne]; omega
  have hd2 := HX1.out.dec w1 (hBK1.tabs hU h2)
  rw [rn_of (by simp), hd_cons] at hd2
  have hw2 := HX1.out.wdl_le
  obtain ⟨r1, r2, _⟩ := HX1.out.all.head
  obtain ⟨m, hm⟩ : ∃ m, wdl (d :: u) = m := ⟨_, rfl⟩
  rw [hm] at hd2 hw2
  have HX2 : Hid (Wt (X1.extract m X1.size) u) := Lib.hid (HX1.out.cut hm.symm)
  have HS2 : Hid ((X1.extract m X1.size).size ≤ 1073741824) := Lib.hid (Nat.le_trans (Wt.cut_le m) HS1.out)
  clear hm HX1
  go_wp2_with fail
  refine hd2.mono ?_
  rintro e w3 ⟨rfl, hbel3⟩
  have hBK3 := hBK1.quiet hbel3
  clear hd2 hbel3 hBK1
  go_upto_region 22 with (fail)
  obtain ⟨X2, hX2⟩ : ∃ x, X1.extract m X1.size = x := ⟨_, rfl⟩
  rw [hX2]
  rw [hX2] at HX2 HS2
  clear hX2 hw2 hX1p hz HS1
  subst hx
  have k1 : hxb 13 = false := rfl
  have hd4 := HX2.out.dec w3 (hBK3.tabs hU h2)
  have hw4 := HX2.out.wdl_le
  obtain ⟨v, hv⟩ : ∃ v, wdl u = v := ⟨_, rfl⟩
  obtain ⟨z, hz⟩ : ∃ z, rn u = z := ⟨_, rfl⟩
  rw [hv, hz] at hd4
  rw [hv] at hw4
  have HN : Hid (decF (92 :: 13 :: u) = decF (if z = 10 then u.tail else u)) := Lib.hid (by
    rw [decF_nl (by rfl)]
    have e : (hd u = 10) ↔ z = 10 := by
      rw [← hz]
      unfold rn
      by_cases q : u = []
      · rw [if_pos q, q]; simp
      · rw [if_neg q]
    simp only [nlTake, true_and]
    by_cases q : z = 10
    · rw [if_pos q, if_pos (e.2 q)]
    · rw [if_neg q, if_neg (fun x => q (e.1 x))])
  have HX3 : Hid (Wt (X2.extract v X2.size) u.tail) := Lib.hid (HX2.out.cut hv.symm)
  have HS3 : Hid ((X2.extract v X2.size).size ≤ 1073741824) := Lib.hid (Nat.le_trans (Wt.cut_le v) HS2.out)
  clear hv hz
  by_cases hz : z = 10
  · have k5 : (z == 10) = true := by rw [hz]; rfl
    have HZ := Lib.hid hz
    clear hz
    go_wp2_with (first | (go_at_call 61; refine (isHex_calls _ _).mono ?_; rintro e w' ⟨rfl, rfl⟩) | (go_at_call 59; refine hd4.mono ?_; rintro e w5 ⟨rfl, hbel5⟩))
    exact DcR.go (X := X2.extract v X2.size) (l := u.tail) ⟨rfl, rfl, rfl, rfl⟩ HX3.out (by simp <;> omega) HS3.out (by rw [← HDC.out, HN.out, if_pos HZ.out]) (hBK3.quiet hbel5)
  · have k5 : (z == 10) = false := by simp [hz]
    have HZ := Lib.hid hz
    clear hz
    go_wp2_with (first | (go_at_call 61; refine (isHex_calls _ _).mono ?_; rintro e w' ⟨rfl, rfl⟩) | (go_at_call 59; refine hd4.mono ?_; rintro e w5 ⟨rfl, hbel5⟩))
    exact DcR.go (X := X2) (l := u) ⟨rfl, rfl, rfl, rfl⟩ HX2.out (by simp <;> omega) HS2.out (by rw [← HDC.out, HN.out, if_neg HZ.out]) (hBK3.quiet hbel5)
set_option maxRecDepth 1000000 in
set_option maxHeartbeats 16000000 in
theorem dc_one {T : List UInt8} {w0 w : World} {b : Nat} {X : ByteArray} {out : List UInt8} {d : Int} {u : List Int} (hX : Wt X (92 :: d :: u)) (hs : X.size ≤ 1073741824) (hd : out ++ decF (92 :: d :: u) = T) (hT : T.length ≤ 4294967296) (hB : BK w0 w b out) (hU : Lib.Utf8Tabs 0 1 w0) (h2 : 2 ≤ b) (hx : ¬ 0 ≤ hexv d) (hnl : isNL d = false) (f : Nat → Value) :
    Code.wp Tryz.prog decBody (DcR T w0 b (92 :: d :: u).length) ⟨#[.string X, f 1, f 2, f 3, f 4, .pointer (some ⟨b, 0, none⟩), f 6, f 7, f 8, f 9, f 10, f 11, f 12, f 13, f 14, f 15, f 16, f 17, f 18, f 19, f 20, f 21, f 22, f 23, f 24, f 25, f 26, f 27, f 28, f 29, f 30, f 31, f 32, f 33, f 34, f 35, f 36, f 37, f 38, f 39, f 40, f 41, f 42, f 43, f 44, f 45, f 46, f 47, f 48, f 49, f 50, f 51, f 52, f 53, f 54, f 55, f 56, f 57, f 58, f 59, f 60, f 61, f 62, f 63, f 64, f 65, f 66, f 67, f 68, f 69, f 70, f 71, f 72, f 73, f 74, f 75, f 76, f 77, f 78, f 79, f 80, f 81, f 82, f 83, f 84, f 85, f 86, f 87, f 88, f 89, f 90, f 91, f 92, f 93, f 94, f 95, f 96, f 97, f 98, f 99, f 100, f 101, f 102, f 103, f 104, f 105, f 106, f 107, f 108, f 109, f 110, f 111, f 112, f 113, f 114, f 115, f 116, f 117, f 118, f 119, f 120, f 121, f 122, f 123, f 124, f 125, f 126, f 127, f 128, f 129, f 130, f 131, f 132, f 133, f 134, f 135, f 136, f 137, f 138, f 139, f 140, f 141, f 142, f 143, f 144, f 145, f 146, f 147, f 148, f 149, f 150, f 151, f 152, f 153, f 154, f 155], []⟩ w := by
  conv => arg 2; whnf
  have hol : out.length ≤ 4294967296 := by
    have e := congrArg List.length hd
    rw [List.length_append] at e
    omega
  have HDC := Lib.hid hd
  have hU2 := hB.tabs hU h2
  clear hd
  have hXp : 0 < X.size := hX.pos.2 (by simp)
  have hd1 := hX.dec w hU2
  rw [rn_of (by simp), hd_cons] at hd1
  have hw1 := hX.wdl_le
  have hr := hX.all.head
  obtain ⟨hr1, hr2, _⟩ := hr
  obtain ⟨n, hn⟩ : ∃ n, wdl (92 :: d :: u) = n := ⟨_, rfl⟩
  rw [hn] at hd1 hw1
  have HX1 : Hid (Wt (X.extract n X.size) (d :: u)) := Lib.hid (hX.cut hn.symm)
  have HS1 : Hid ((X.extract n X.size).size ≤ 1073741824) := Lib.hid (Nat.le_trans (Wt.cut_le n) hs)
  clear hX hn
  go_wp2_with fail
  refine hd1.mono ?_
  rintro e w1 ⟨rfl, hbel1⟩
  have hBK1 := hB.quiet hbel1
  clear hd1 hbel1 hB hU2
  go_upto_region 14 with (fail)
  obtain ⟨X1, hX1⟩ : ∃ x, X.extract n X.size = x := ⟨_, rfl⟩
  rw [hX1]
  rw [hX1] at HX1 HS1
  clear hX1 hw1 hXp
  have hX1p : 0 < X1.size := HX1.out.pos.2 (by simp)
  have hz : ((X1.size : Int) == 0) = false := by simp only [beq_eq_false_iff_ne]; omega
  have hd2 := HX1.out.dec w1 (hBK1.tabs hU h2)
  rw [rn_of (by simp), hd_cons] at hd2
  have hw2 := HX1.out.wdl_le
  obtain ⟨r1, r2, _⟩ := HX1.out.all.head
  obtain ⟨m, hm⟩ : ∃ m, wdl (d :: u) = m := ⟨_, rfl⟩
  rw [hm] at hd2 hw2
  have HX2 : Hid (Wt (X1.extract m X1.size) u) := Lib.hid (HX1.out.cut hm.symm)
  have HS2 : Hid ((X1.extract m X1.size).size ≤ 1073741824) := Lib.hid (Nat.le_trans (Wt.cut_le m) HS1.out)
  clear hm HX1
  go_wp2_with fail
  refine hd2.mono ?_
  rintro e w3 ⟨rfl, hbel3⟩
  have hBK3 := hBK1.quiet hbel3
  clear hd2 hbel3 hBK1
  go_upto_region 22 with (fail)
  obtain ⟨X2, hX2⟩ : ∃ x, X1.extract m X1.size = x := ⟨_, rfl⟩
  rw [hX2]
  rw [hX2] at HX2 HS2
  clear hX2 hw2 hX1p hz HS1
  have k1 := hxb_false (c := d) (by omega)
  have HN : Hid (decF (92 :: d :: u) = enc d ++ decF u) := Lib.hid (decF_one (by simp) (by simp only [hd_cons]; omega) hnl)
  have k3 : (d == 10) = false ∧ (d == 13) = false ∧ (d == 12) = false := by
    unfold isNL at hnl
    simp only [Bool.or_eq_false_iff] at hnl
    exact ⟨hnl.1.1, hnl.1.2, hnl.2⟩
  obtain ⟨k3, k4, k5⟩ := k3
  clear hx hnl
  go_wp2_with (go_at_call 61; refine (isHex_calls _ _).mono ?_; rintro e w' ⟨rfl, rfl⟩)
  refine (Tryz.Builder_WriteRune_k b b (Lib.byteCells out) d (by omega) (by omega) _ hBK3.bf (by rw [Lib.byteCells_length]; omega) hBK3.hb).mono ?_
  rintro e w9 ⟨rfl, hb9, hbel9, _⟩
  have hBK9 := hBK3.rune hb9 hbel9
  clear hb9 hbel9 hBK3
  go_wp2_with fail
  exact DcR.go (X := X2) (l := u) ⟨rfl, rfl, rfl, rfl⟩ HX2.out (by simp <;> omega) HS2.out (by rw [← HDC.out, HN.out, List.append_assoc]) hBK9
end Go.Proofs.YtedckphklebndaaGreatDoor
