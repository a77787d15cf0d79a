/- The package's decodeEscapesInToken, walked. Conditions: a plain text of at most 2^30 bytes; the tables of unicode/utf8 lie in blocks 0 and 1. -/
import Derived.Test.YtedckphklebndaaGreatDoorQY4
import Derived.Deep.CutBlock
import Derived.Test.YtedckphklebndaaGreatDoorQGX5
import Derived.Deep.RegionHeld3
import Derived.Test.YtedckphklebndaaGreatDoorQGY8
import Derived.Test.YtedckphklebndaaGreatDoorQGT0
import Derived.Test.YtedckphklebndaaGreatDoorQGZ0
namespace Go.Proofs.YtedckphklebndaaGreatDoor
open Go Go.RowKit
set_option maxRecDepth 100000 in
theorem letters156 (f : Nat → Value) : (List.range' 1 155).map f = [f 1, f 2, f 3, f 4, f 5, f 6, f 7, f 8, f 9, f 10, f 11, f 12, f 13, f 14, f 15, f 16, f 17, f 18, f 19, f 20, f 21, f 22, f 23, f 24, f 25, f 26, f 27, f 28, f 29, f 30, f 31, f 32, f 33, f 34, f 35, f 36, f 37, f 38, f 39, f 40, f 41, f 42, f 43, f 44, f 45, f 46, f 47, f 48, f 49, f 50, f 51, f 52, f 53, f 54, f 55, f 56, f 57, f 58, f 59, f 60, f 61, f 62, f 63, f 64, f 65, f 66, f 67, f 68, f 69, f 70, f 71, f 72, f 73, f 74, f 75, f 76, f 77, f 78, f 79, f 80, f 81, f 82, f 83, f 84, f 85, f 86, f 87, f 88, f 89, f 90, f 91, f 92, f 93, f 94, f 95, f 96, f 97, f 98, f 99, f 100, f 101, f 102, f 103, f 104, f 105, f 106, f 107, f 108, f 109, f 110, f 111, f 112, f 113, f 114, f 115, f 116, f 117, f 118, f 119, f 120, f 121, f 122, f 123, f 124, f 125, f 126, f 127, f 128, f 129, f 130, f 131, f 132, f 133, f 134, f 135, f 136, f 137, f 138, f 139, f 140, f 141, f 142, f 143, f 144, f 145, f 146, f 147, f 148, f 149, f 150, f 151, f 152, f 153, f 154, f 155] := rfl
theorem list_letters0 (l : List Value) (d : Value) (n : Nat) : l = (List.range' n l.length).map (fun i => l.getD (i - n) d) := by
  refine List.ext_getElem (by simp) ?_
  intro i h1 h2
  simp only [List.getElem_map, List.getElem_range', Nat.one_mul, Nat.add_sub_cancel_left]
  rw [List.getD_eq_getElem?_getD, List.getElem?_eq_getElem h1]
  rfl
set_option maxRecDepth 100000 in
theorem open156 {t : Array Value} {p : Value} (h : t.size = 156) (h0 : t[0]? = some p) : ∃ f : Nat → Value, t = #[p, f 1, f 2, f 3, f 4, f 5, f 6, f 7, f 8, f 9, f 10, f 11, f 12, f 13, f 14, f 15, f 16, f 17, f 18, f 19, f 20, f 21, f 22, f 23, f 24, f 25, f 26, f 27, f 28, f 29, f 30, f 31, f 32, f 33, f 34, f 35, f 36, f 37, f 38, f 39, f 40, f 41, f 42, f 43, f 44, f 45, f 46, f 47, f 48, f 49, f 50, f 51, f 52, f 53, f 54, f 55, f 56, f 57, f 58, f 59, f 60, f 61, f 62, f 63, f 64, f 65, f 66, f 67, f 68, f 69, f 70, f 71, f 72, f 73, f 74, f 75, f 76, f 77, f 78, f 79, f 80, f 81, f 82, f 83, f 84, f 85, f 86, f 87, f 88, f 89, f 90, f 91, f 92, f 93, f 94, f 95, f 96, f 97, f 98, f 99, f 100, f 101, f 102, f 103, f 104, f 105, f 106, f 107, f 108, f 109, f 110, f 111, f 112, f 113, f 114, f 115, f 116, f 117, f 118, f 119, f 120, f 121, f 122, f 123, f 124, f 125, f 126, f 127, f 128, f 129, f 130, f 131, f 132, f 133, f 134, f 135, f 136, f 137, f 138, f 139, f 140, f 141, f 142, f 143, f 144, f 145, f 146, f 147, f 148, f 149, f 150, f 151, f 152, f 153, f 154, f 155] := by
  obtain ⟨l⟩ := t
  cases l with
  | nil => cases h
  | cons a l =>
    simp only [List.size_toArray, List.length_cons, Nat.reduceEqDiff] at h
    simp only [List.getElem?_toArray, List.getElem?_cons_zero, Option.some.injEq] at h0
    subst h0
    have e := list_letters0 l a 1
    rw [h, letters156] at e
    exact ⟨fun i => l.getD (i - 1) a, congrArg (fun x => (⟨a :: x⟩ : Array Value)) e⟩
set_option maxRecDepth 1000000 in
theorem DcF.open {b : Nat} {X : ByteArray} {a : Act} (h : DcF b X a) : ∃ f : Nat → Value, a = ⟨#[.string X, f 1, f 2, f 3, f 4, .pointer (some ⟨b, 0, none⟩), f 6, f 7, f 8, f 9, f 10, f 11, f 12, f 13, f 14, f 15, f 16, f 17, f 18, f 19, f 20, f 21, f 22, f 23, f 24, f 25, f 26, f 27, f 28, f 29, f 30, f 31, f 32, f 33, f 34, f 35, f 36, f 37, f 38, f 39, f 40, f 41, f 42, f 43, f 44, f 45, f 46, f 47, f 48, f 49, f 50, f 51, f 52, f 53, f 54, f 55, f 56, f 57, f 58, f 59, f 60, f 61, f 62, f 63, f 64, f 65, f 66, f 67, f 68, f 69, f 70, f 71, f 72, f 73, f 74, f 75, f 76, f 77, f 78, f 79, f 80, f 81, f 82, f 83, f 84, f 85, f 86, f 87, f 88, f 89, f 90, f 91, f 92, f 93, f 94, f 95, f 96, f 97, f 98, f 99, f 100, f 101, f 102, f 103, f 104, f 105, f 106, f 107, f 108, f 109, f 110, f 111, f 112, f 113, f 114, f 115, f 116, f 117, f 118, f 119, f 120, f 121, f 122, f 123, f 124, f 125, f 126, f 127, f 128, f 129, f 130, f 131, f 132, f 133, f 134, f 135, f 136, f 137, f 138, f 139, f 140, f 141, f 142, f 143, f 144, f 145, f 146, f 147, f 148, f 149, f 150, f 151, f 152, f 153, f 154, f 155], []⟩ := by
  obtain ⟨t, d⟩ := a
  obtain ⟨h1, h2, h3, h4⟩ := h
  simp only at h1 h2 h3 h4
  subst h1
  obtain ⟨f, rfl⟩ := open156 h2 h3
  have e5 : f 5 = .pointer (some ⟨b, 0, none⟩) := Option.some.inj h4
  exact ⟨f, by rw [e5]⟩
set_option maxRecDepth 1000000 in
set_option maxHeartbeats 4000000 in
theorem dc_done {T : List UInt8} {w0 w : World} {b : Nat} {X : ByteArray} {out : List UInt8} (hX : Wt X []) (hd : out ++ decF [] = T) (hB : BK w0 w b out) (f : Nat → Value) :
    Code.wp Tryz.prog decBody (DcR T w0 b 0) ⟨#[.string X, f 1, f 2, f 3, f 4, .pointer (some ⟨b, 0, none⟩), f 6, f 7, f 8, f 9, f 10, f 11, f 12, f 13, f 14, f 15, f 16, f 17, f 18, f 19, f 20, f 21, f 22, f 23, f 24, f 25, f 26, f 27, f 28, f 29, f 30, f 31, f 32, f 33, f 34, f 35, f 36, f 37, f 38, f 39, f 40, f 41, f 42, f 43, f 44, f 45, f 46, f 47, f 48, f 49, f 50, f 51, f 52, f 53, f 54, f 55, f 56, f 57, f 58, f 59, f 60, f 61, f 62, f 63, f 64, f 65, f 66, f 67, f 68, f 69, f 70, f 71, f 72, f 73, f 74, f 75, f 76, f 77, f 78, f 79, f 80, f 81, f 82, f 83, f 84, f 85, f 86, f 87, f 88, f 89, f 90, f 91, f 92, f 93, f 94, f 95, f 96, f 97, f 98, f 99, f 100, f 101, f 102, f 103, f 104, f 105, f 106, f 107, f 108, f 109, f 110, f 111, f 112, f 113, f 114, f 115, f 116, f 117, f 118, f 119, f 120, f 121, f 122, f 123, f 124, f 125, f 126, f 127, f 128, f 129, f 130, f 131, f 132, f 133, f 134, f 135, f 136, f 137, f 138, f 139, f 140, f 141, f 142, f 143, f 144, f 145, f 146, f 147, f 148, f 149, f 150, f 151, f 152, f 153, f 154, f 155], []⟩ w := by
  conv => arg 2; whnf
  have hX0 : X.size = 0 := by rw [hX.size]; rfl
  rw [decF_nil, List.append_nil] at hd
  have HD := Lib.hid hd
  clear hX hd
  go_wp2_with fail
  exact .inr ⟨rfl, X, ⟨rfl, rfl, rfl, rfl⟩, by rw [← HD.out]; exact hB⟩
theorem dc_any {T : List UInt8} {w0 w : World} {b : Nat} {X : ByteArray} {l : List Int} {out : List UInt8} (hX : Wt X l) (hs : X.size ≤ 1073741824) (hd' : out ++ decF l = T) (hT : T.length ≤ 4294967296) (hB : BK w0 w b out) (hU : Lib.Utf8Tabs 0 1 w0) (h2 : 2 ≤ b) (f : Nat → Value) :
    Code.wp Tryz.prog decBody (DcR T w0 b l.length) ⟨#[.string X, f 1, f 2, f 3, f 4, .pointer (some ⟨b, 0, none⟩), f 6, f 7, f 8, f 9, f 10, f 11, f 12, f 13, f 14, f 15, f 16, f 17, f 18, f 19, f 20, f 21, f 22, f 23, f 24, f 25, f 26, f 27, f 28, f 29, f 30, f 31, f 32, f 33, f 34, f 35, f 36, f 37, f 38, f 39, f 40, f 41, f 42, f 43, f 44, f 45, f 46, f 47, f 48, f 49, f 50, f 51, f 52, f 53, f 54, f 55, f 56, f 57, f 58, f 59, f 60, f 61, f 62, f 63, f 64, f 65, f 66, f 67, f 68, f 69, f 70, f 71, f 72, f 73, f 74, f 75, f 76, f 77, f 78, f 79, f 80, f 81, f 82, f 83, f 84, f 85, f 86, f 87, f 88, f 89, f 90, f 91, f 92, f 93, f 94, f 95, f 96, f 97, f 98, f 99, f 100, f 101, f 102, f 103, f 104, f 105, f 106, f 107, f 108, f 109, f 110, f 111, f 112, f 113, f 114, f 115, f 116, f 117, f 118, f 119, f 120, f 121, f 122, f 123, f 124, f 125, f 126, f 127, f 128, f 129, f 130, f 131, f 132, f 133, f 134, f 135, f 136, f 137, f 138, f 139, f 140, f 141, f 142, f 143, f 144, f 145, f 146, f 147, f 148, f 149, f 150, f 151, f 152, f 153, f 154, f 155], []⟩ w := by
  cases l with
  | nil => exact dc_done hX hd' hB f
  | cons c t =>
    by_cases hc : c = 92
    · subst hc
      cases t with
      | nil => exact dc_end hX hs hd' hT hB hU h2 f
      | cons d u =>
        by_cases hx : 0 ≤ hexv d
        · exact dc_hex hX hs hd' hT hB hU h2 hx f
        · by_cases h10 : d = 10
          · exact dc_nl10 hX hs hd' hT hB hU h2 h10 f
          · by_cases h12 : d = 12
            · exact dc_nl12 hX hs hd' hT hB hU h2 h12 f
            · by_cases h13 : d = 13
              · exact dc_cr hX hs hd' hT hB hU h2 h13 f
              · exact dc_one hX hs hd' hT hB hU h2 hx (by unfold isNL; simp [h10, h12, h13]) f
    · exact dc_plain hX hs hd' hT hB hU h2 hc f
theorem dec_loop {T : List UInt8} {w0 w : World} {b k : Nat} {a : Act} (h : DcI T w0 b k a w) (hT : T.length ≤ 4294967296) (hU : Lib.Utf8Tabs 0 1 w0) (h2 : 2 ≤ b) :
    Code.wp Tryz.prog (.block 2 (.loop decBody)) (fun e a' w' => e = .normal ∧ ∃ X, DcF b X a' ∧ BK w0 w' b T) a w := by
  refine wp_block ?_
  refine wp_loop_ghost (fun k a w => DcI T w0 b k a w) k h ?_
  rintro n a1 w1 ⟨X, l, out, hf, hX, rfl, hs, hd', hB⟩
  obtain ⟨f, rfl⟩ := hf.open
  refine wp_mono (dc_any hX hs hd' hT hB hU h2 f) ?_
  intro e a' w' hq
  rcases hq with ⟨rfl, k', hlt, hI⟩ | ⟨rfl, X', hf', hB'⟩
  · exact ⟨k', hlt, hI⟩
  · exact ⟨rfl, X', hf', hB'⟩
theorem BY.byte {s : ByteArray} {i : Nat} {b : UInt8} {q : List UInt8} {t : List Int} (h : BY s i (b :: q) t) (hi : i < s.size) : s[i]'hi = b := by
  have h1 := list_get_ba s i hi
  have h2 : (s.data.toList.drop i)[0]? = some b := by rw [h.2.1]; rfl
  rw [List.getElem?_drop, Nat.add_zero, h1] at h2
  exact Option.some.inj h2
theorem DB.rune {T : ByteArray} {l : List Int} {i : Nat} {c : Int} {t : List Int} (hB : BY T i [] (c :: t)) (hi : i < T.size) (hc : c ≠ 92) (hD : T.data.toList.take i ++ ([] ++ decF (c :: t)) = decF l) :
    T.data.toList.take (i + 1) ++ ((enc c).tail ++ decF t) = decF l := by
  obtain ⟨tl, he⟩ := enc_lead hB.2.2.1.head
  have h1 := list_get_ba T i hi
  have h2 : (T.data.toList.drop i)[0]? = some (lead c).toNat.toUInt8 := by rw [hB.2.1]; simp [encs, he]
  rw [List.getElem?_drop, Nat.add_zero, h1] at h2
  have h3 := Option.some.inj h2
  rw [← hD, decF_plain hc, he, List.nil_append, List.tail_cons, List.cons_append]
  exact DB.step hi h3 _
set_option maxRecDepth 100000 in
set_option maxHeartbeats 8000000 in
theorem decode_calls {T : ByteArray} {l : List Int} (h : Wt T l) (hs : T.size ≤ 1073741824) (w : World) (hU : Lib.Utf8Tabs 0 1 w) (h2 : 2 ≤ w.heap.size) :
    Calls Tryz.prog 33 #[.string T] w fun e w' => ∃ R : ByteArray, e = .returned (.string R) ∧ R.data.toList = decF l ∧ KeepA w w' := by
  have hlen : Hid ((decF l).length ≤ 4 * 1073741824) := Lib.hid (by
    have h3 := decF_len l
    have h4 := encs_ge l
    rw [← h.size] at h4
    omega)
  go_enter Tryz.func33, Tryz.ntmps33
  go_wp2_with fail
  go_loopg [3] T.size (fun k a wr => DB T l w k a wr)
  case atStart => exact ⟨rfl, 0, [], l, rfl, rfl, by have := BY.start h.sfx; rw [h.ps] at this; exact this, by simp⟩
  case round =>
    obtain ⟨hw, i, q, t, rfl, hk, hB, hD⟩ := hrel
    subst wr
    have HK := Lib.hid hk
    have HD := Lib.hid hD
    have HB := Lib.hid hB
    clear hk hD
    have hle := hB.1
    by_cases hlt : i < T.size
    · obtain ⟨x, hx⟩ : ∃ x : Nat, ∀ hi : i < T.size, ((T[i]'hi).toNat) = x := ⟨(T[i]'hlt).toNat, fun _ => rfl⟩
      have hx3 : x < 256 := by rw [← hx hlt]; exact UInt8.toNat_lt _
      cases q with
      | cons b q =>
        have hx2 := hB.more.2 hlt
        rw [hx] at hx2
        have k1 : ((x : Int) == 92) = false := by simp only [beq_eq_false_iff_ne]; omega
        have k2 : ((x : Int) == 0) = false := by simp only [beq_eq_false_iff_ne]; omega
        clear hx2 hB
        go_wp2_with fail
        go_roundg (T.size - (i + 1))
        case measure => have := HK.out; omega
        case rel => exact ⟨rfl, i + 1, q, t, by simp, rfl, HB.out.more.1, by
          rw [← HD.out, List.cons_append]
          exact DB.step hlt (BY.byte HB.out hlt) _⟩
      | nil =>
        cases t with
        | nil => exact absurd hlt (by rw [BY.lt hB]; simp)
        | cons c t =>
          have hxc := hB.next.2 hlt
          rw [hx] at hxc
          have hr := hB.2.2.1.head
          have HX := Lib.hid hx
          by_cases hc : c = 92
          · have hx92 : x = 92 := by subst hc; rw [show lead 92 = 92 from rfl] at hxc; omega
            have k1 : ((x : Int) == 92) = true := by rw [hx92]; rfl
            subst hc
            clear hB hxc hr hx92
            have hni : ((i : Int) == T.size) = false := by simp only [beq_eq_false_iff_ne]; omega
            have hi0 : (0 : Int) ≤ i := by omega
            have hiT : (i : Int) ≤ T.size := by omega
            go_wp2_with fail
            have hb0 : Lib.IsBuilderF 126 5 w.heap.size w.heap.size (Lib.byteCells []) (w.alloc (Obj.cells #[Value.pointer none, Value.slice none 0 0] 126)) := Lib.IsBuilderF.of (Lib.fresh_isBuilder 126 5 w)
            have hxs : (T.extract 0 i).size ≤ 1073741824 := by rw [ByteArray.size_extract]; omega
            refine (Tryz.Builder_WriteString_k w.heap.size w.heap.size (Lib.byteCells []) (T.extract 0 i) _ hb0 (by simp only [Lib.byteCells, List.map_nil, List.length_nil]; omega) (by simp)).mono ?_
            rintro e w2 ⟨rfl, hb2, hbel, _⟩
            have hBK : BK w w2 w.heap.size (T.extract 0 i).data.toList := by
              rw [Lib.strCells_eq] at hb2
              have hs2 := hbel.size
              exact ⟨.inr hb2, ((Keep.refl _ _).alloc _).trans (Keep.of_belowB hbel), by simp at hs2; omega⟩
            have hS := HB.out.sfx
            have hWt : Wt (T.extract i T.size) (92 :: t) := by
              refine ⟨?_, hS.1.all⟩
              have hl : T.data.toList.length = T.size := by simp
              rw [Lib.extract_data, List.take_of_length_le (by rw [List.length_drop]; omega), hS.2]
              exact hS.1.bytes
            have hout : (T.extract 0 i).data.toList ++ decF (92 :: t) = decF l := by
              rw [← HD.out, Lib.extract_data, List.drop_zero, Nat.sub_zero]; rfl
            have HWT := Lib.hid hWt
            have HOU := Lib.hid hout
            have HXS : Hid ((T.extract i T.size).size ≤ 1073741824) := Lib.hid (Nat.le_trans (Wt.cut_le i) hs)
            obtain ⟨b, hb⟩ : ∃ b, w.heap.size = b := ⟨_, rfl⟩
            rw [hb] at hBK h2 ⊢
            obtain ⟨out0, hout0⟩ : ∃ o, (T.extract 0 i).data.toList = o := ⟨_, rfl⟩
            rw [hout0] at hBK HOU
            have HB2 := Lib.hid hb
            clear hb hb0 hb2 hbel hWt hout hS hout0 hxs
            go_upto_block 2 with (fail)
            clear k1 hni hi0 hiT hx hx3 hlt hle
            refine wp_mono (dec_loop (T := decF l) (w0 := w) (b := b) (k := (92 :: t).length) ⟨_, _, out0, ⟨rfl, rfl, rfl, rfl⟩, HWT.out, rfl, HXS.out, HOU.out, hBK⟩ hlen.out hU h2) ?_
            rintro e a' w' ⟨rfl, X, hf, hBK'⟩
            obtain ⟨f, rfl⟩ := hf.open
            have hol := hlen.out
            clear hBK
            go_wp2_with fail
            refine (Tryz.Builder_String_any_k b b (decF l) _ hBK'.bf hBK'.hb).mono ?_
            rintro e w9 ⟨rfl, _, hbel, _⟩
            go_wp2_with fail
            go_ret
            exact ⟨_, rfl, by simp, (hBK'.kp.trans (Keep.of_belowB hbel)).mono (fun k hk e => by have := HB2.out; omega)⟩
          · have hlc : lead c ≠ 92 ∧ lead c ≠ 0 := by
              by_cases h128 : c < 128
              · rw [lead_low h128]; exact ⟨hc, by have := hr.1; omega⟩
              · have := lead_high hr (by omega); omega
            have k1 : ((x : Int) == 92) = false := by simp only [beq_eq_false_iff_ne]; omega
            have k2 : ((x : Int) == 0) = false := by simp only [beq_eq_false_iff_ne]; omega
            have HC := Lib.hid hc
            clear hB hxc hr hc hlc
            go_wp2_with fail
            go_roundg (T.size - (i + 1))
            case measure => have := HK.out; omega
            case rel => exact ⟨rfl, i + 1, (enc c).tail, t, by simp, rfl, HB.out.next.1, DB.rune HB.out hlt HC.out HD.out⟩
    · have hend : q = [] ∧ t = [] := by
        have := (not_congr (BY.lt hB)).1 hlt
        by_cases e : q = []
        · exact ⟨e, by by_cases e2 : t = []; exact e2; exact absurd (.inr e2) this⟩
        · exact absurd (.inl e) this
      obtain ⟨rfl, rfl⟩ := hend
      have hi : i = T.size := by omega
      subst hi
      have HF : Hid (T.data.toList = decF l) := Lib.hid (by
        have e := HD.out
        rw [decF_nil, List.append_nil, List.append_nil, List.take_of_length_le (by simp)] at e
        exact e)
      clear hB
      go_wp2_with fail
      go_ret
      exact ⟨T, rfl, HF.out, Keep.refl _ _⟩
end Go.Proofs.YtedckphklebndaaGreatDoor
/- The package's DecodedText, walked. Conditions: the token's letters are those of a token (Ltr); a text of at most 2^30 bytes; the tables of unicode/utf8 lie in blocks 0 and 1. -/
namespace Go.Proofs.YtedckphklebndaaGreatDoor
open Go Go.RowKit
theorem encs_one {c : Int} (h0 : 0 ≤ c) (h : c < 128) (t : List Int) : encs (c :: t) = c.toNat.toUInt8 :: encs t := by simp only [encs, enc_one h0 h, List.cons_append, List.nil_append]
/-- Without its first letter. -/
theorem Wt.rest {raw : ByteArray} {c : Int} {v : List Int} (h : Wt raw (c :: v)) (h0 : 0 ≤ c) (h1 : c < 128) : Wt (raw.extract 1 raw.size) v ∧ 1 ≤ raw.size := by
  have hs := h.size
  rw [encs_one h0 h1] at hs
  refine ⟨⟨?_, h.all.tail⟩, by simp at hs; omega⟩
  have hl : raw.data.toList.length = raw.size := by simp
  rw [Lib.extract_data, List.take_of_length_le (by rw [List.length_drop]; omega), h.by_, encs_one h0 h1]; rfl
/-- Without its last letter. -/
theorem Wt.init {raw : ByteArray} {c : Int} {v : List Int} (h : Wt raw (v ++ [c])) (h0 : 0 ≤ c) (h1 : c < 128) : Wt (raw.extract 0 (raw.size - 1)) v ∧ 1 ≤ raw.size := by
  have hs := h.size
  rw [encs_append, encs_one h0 h1, List.length_append] at hs
  simp only [encs, List.length_cons, List.length_nil] at hs
  refine ⟨⟨?_, h.all.left⟩, by omega⟩
  rw [Lib.extract_data, List.drop_zero, Nat.sub_zero, h.by_, encs_append, List.take_left' (by omega)]
/-- Without its quotes. -/
theorem Wt.inner {raw : ByteArray} {c : Int} {v : List Int} (h : Wt raw (c :: (v ++ [c]))) (h0 : 0 ≤ c) (h1 : c < 128) : Wt (raw.extract 1 (raw.size - 1)) v ∧ 2 ≤ raw.size := by
  have hs := h.size
  rw [encs_one h0 h1, encs_append, encs_one h0 h1] at hs
  simp only [encs, List.length_cons, List.length_nil, List.length_append] at hs
  refine ⟨⟨?_, h.all.tail.left⟩, by omega⟩
  rw [Lib.extract_data, h.by_, encs_one h0 h1, encs_append, List.drop_succ_cons, List.drop_zero, List.take_left' (by omega)]
def DTP (tok : Tok) (w : World) (e : Ending) (w' : World) : Prop := ∃ R : ByteArray, e = .returned (.string R) ∧ (hasT tok.kind = true → R.data.toList = tok.text) ∧ KeepA w w'
set_option maxRecDepth 100000 in
set_option maxHeartbeats 8000000 in
theorem DecodedText_calls {s raw : ByteArray} {u : List Int} {tok : Tok} (hW : Wt raw u) (hL : Ltr tok u) {a p : Nat} (hr : s.extract a p = raw) (hap : a ≤ p) (hps : p ≤ s.size) (hs : s.size ≤ 1073741824) (un fl : Int) (w : World) (hU : Lib.Utf8Tabs 0 1 w) (h2 : 2 ≤ w.heap.size) :
    Calls Tryz.prog 25 #[.agg #[.int .i32 (a : Nat), .int .i32 ((p : Int) - a), .int .u16 un, .int .u8 tok.kind, .int .u8 fl], .string s] w (DTP tok w) := by
  have hrs : raw.size ≤ 1073741824 := by rw [← hr, ByteArray.size_extract]; omega
  have HR := Lib.hid hr
  have ha0 : (0 : Int) ≤ a := by omega
  have ha1 : (a : Int) ≤ (p : Nat) := by omega
  have ha2 : (p : Int) ≤ s.size := by omega
  clear hr
  obtain ⟨K, hK⟩ : ∃ K, tok.kind = K := ⟨_, rfl⟩
  rw [hK]
  have HK := Lib.hid hK
  clear hK
  go_enter Tryz.func25, Tryz.ntmps25
  go_upto_region 1 with (fail)
  have hKb : KeepA w (w.alloc (.cells #[.int .i32 (a : Nat), .int .i32 ((p : Int) - a), .int .u16 un, .int .u8 K, .int .u8 fl] 60)) := (Keep.refl _ _).alloc _
  have hB : (w.alloc (.cells #[.int .i32 (a : Nat), .int .i32 ((p : Int) - a), .int .u16 un, .int .u8 K, .int .u8 fl] 60)).heap[w.heap.size]? = some (.cells #[.int .i32 (a : Nat), .int .i32 ((p : Int) - a), .int .u16 un, .int .u8 K, .int .u8 fl] 60 (0, 0)) := heap_alloc_new w _
  obtain ⟨wb, hwb⟩ : ∃ x, w.alloc (.cells #[.int .i32 (a : Nat), .int .i32 ((p : Int) - a), .int .u16 un, .int .u8 K, .int .u8 fl] 60) = x := ⟨_, rfl⟩
  obtain ⟨X, hX⟩ : ∃ x, w.heap.size = x := ⟨_, rfl⟩
  rw [hwb] at hKb hB ⊢
  rw [hX] at hB ⊢
  have HX := Lib.hid hX
  clear hwb hX
  go_cut [5] (fun v wc => v = .string raw ∧ KeepA wb wc)
  case first =>
    have c0 : wb.cell? ⟨X, 0, none⟩ = some (.int .i32 (a : Nat)) := (blk_cell hB 0).trans rfl
    have c1 : wb.cell? ⟨X, 1, none⟩ = some (.int .i32 ((p : Int) - a)) := (blk_cell hB 1).trans rfl
    have hBd : wb.drew.heap[X]? = _ := hB
    go_region_held3 (fun w' => w'.cell? ⟨X, 0, none⟩ = some (.int .i32 (a : Nat)) ∧ w'.cell? ⟨X, 1, none⟩ = some (.int .i32 ((p : Int) - a))) (go_keep)
      (first
        | (go_at_call 24; refine (End_at a p (by omega) _).mono ?_; rintro e w1 ⟨rfl, hK1⟩; have hB1 := hK1.blk hBd (fun x => x); have d0 : w1.cell? ⟨X, 0, none⟩ = some (.int .i32 (a : Nat)) := (blk_cell hB1 0).trans rfl; have d1 : w1.cell? ⟨X, 1, none⟩ = some (.int .i32 ((p : Int) - a)) := (blk_cell hB1 1).trans rfl; skip))
    all_goals
      go_wp2_with fail
      go_meet
      case rel => exact ⟨by rw [← HR.out], ((Keep.refl (fun _ => False) wb).drew).trans hK1⟩
  case rest =>
    obtain ⟨rfl, hKc⟩ := hcut
    have hBc := hKc.blk hB (fun x => x)
    have c3 : wc.cell? ⟨X, 3, none⟩ = some (.int .u8 K) := (blk_cell hBc 3).trans rfl
    have hK2 : KeepA w wc := hKb.trans hKc
    have hU2 := tabs_keep hU hK2 (fun x => x) (fun x => x)
    have h22 : 2 ≤ wc.heap.size := Nat.le_trans h2 hK2.size
    clear hB hBc hKb hKc
    by_cases k29 : K = 29 ∨ K = 26
    · have kk : (K == 29) = true ∨ ((K == 29) = false ∧ (K == 26) = true) := by
        rcases k29 with e | e
        · exact .inl (by rw [e]; rfl)
        · exact .inr ⟨by rw [e]; rfl, by rw [e]; rfl⟩
      have HT : Hid (hasT tok.kind = true → decF u = tok.text) := Lib.hid (fun e => by
        rcases k29 with q | q
        · exact hL.k29 (by rw [HK.out, q])
        · rw [HK.out, q] at e; exact absurd e (by decide))
      clear k29
      rcases kk with k1 | ⟨k1, k2⟩
      all_goals
        go_wp2_with fail
        refine (decode_calls hW hrs _ hU2 h22).mono ?_
        rintro e w9 ⟨R, rfl, hR, hK9⟩
        go_wp2_with fail
        go_ret
        exact ⟨R, rfl, fun e => by rw [hR, HT.out e], hK2.trans hK9⟩
    have k1 : (K == 29) = false := by simp only [beq_eq_false_iff_ne]; exact fun e => k29 (.inl e)
    have k2 : (K == 26) = false := by simp only [beq_eq_false_iff_ne]; exact fun e => k29 (.inr e)
    by_cases k01 : K = 1 ∨ K = 28
    · have kk : (K == 1) = true ∨ ((K == 1) = false ∧ (K == 28) = true) := by
        rcases k01 with e | e
        · exact .inl (by rw [e]; rfl)
        · exact .inr ⟨by rw [e]; rfl, by rw [e]; rfl⟩
      obtain ⟨c, v, hu, hc0, hc1, hd⟩ := hL.k1 (by rw [HK.out]; exact k01)
      rw [hu] at hW
      obtain ⟨hWv, hz⟩ := hW.rest (by omega) hc1
      have hz1 : (1 : Int) ≤ raw.size := by omega
      have HD := Lib.hid hd
      have HWV := Lib.hid hWv
      have HZ : Hid ((raw.extract 1 raw.size).size ≤ 1073741824) := Lib.hid (Nat.le_trans (Wt.cut_le 1) hrs)
      clear k01 hd hWv k29 hu hL hW
      rcases kk with k3 | ⟨k3, k4⟩
      all_goals
        go_wp2_with fail
        refine (decode_calls HWV.out HZ.out _ hU2 h22).mono ?_
        rintro e w9 ⟨R, rfl, hR, hK9⟩
        go_wp2_with fail
        go_ret
        exact ⟨R, rfl, fun e => by rw [hR, HD.out], hK2.trans hK9⟩
    have k3 : (K == 1) = false := by simp only [beq_eq_false_iff_ne]; exact fun e => k01 (.inl e)
    have k4 : (K == 28) = false := by simp only [beq_eq_false_iff_ne]; exact fun e => k01 (.inr e)
    by_cases k27 : K = 27
    · have k5 : (K == 27) = true := by rw [k27]; rfl
      obtain ⟨v, hu, hd⟩ := hL.k27 (by rw [HK.out]; exact k27)
      rw [hu] at hW
      obtain ⟨hWv, hz⟩ := hW.init (by omega) (by omega)
      have hz1 : (0 : Int) ≤ (raw.size : Int) - 1 := by omega
      have hz2 : ((raw.size : Int) - 1).toNat = raw.size - 1 := by omega
      have hz3 : (raw.size : Int) - 1 ≤ raw.size := by omega
      have HD := Lib.hid hd
      have HWV := Lib.hid hWv
      have HZ : Hid ((raw.extract 0 (raw.size - 1)).size ≤ 1073741824) := Lib.hid (by rw [ByteArray.size_extract]; omega)
      clear hd hWv k29 k01 hu hL hW
      go_wp2_with fail
      refine (decode_calls HWV.out HZ.out _ hU2 h22).mono ?_
      rintro e w9 ⟨R, rfl, hR, hK9⟩
      go_wp2_with fail
      go_ret
      exact ⟨R, rfl, fun e => by rw [hR, HD.out], hK2.trans hK9⟩
    have k5 : (K == 27) = false := by simp only [beq_eq_false_iff_ne]; exact k27
    by_cases k36 : K = 36
    · have k6 : (K == 36) = true := by rw [k36]; rfl
      obtain ⟨q, v, hu, hq, hd⟩ := hL.k36 (by rw [HK.out]; exact k36)
      rw [hu] at hW
      obtain ⟨hWv, hz⟩ := hW.inner (by omega) (by omega)
      have hz1 : (1 : Int) ≤ (raw.size : Int) - 1 := by omega
      have hz2 : ((raw.size : Int) - 1).toNat = raw.size - 1 := by omega
      have hz3 : (raw.size : Int) - 1 ≤ raw.size := by omega
      have HD := Lib.hid hd
      have HWV := Lib.hid hWv
      have HZ : Hid ((raw.extract 1 (raw.size - 1)).size ≤ 1073741824) := Lib.hid (by rw [ByteArray.size_extract]; omega)
      clear hd hWv k29 k01 hu hL hW hq
      go_wp2_with fail
      refine (decode_calls HWV.out HZ.out _ hU2 h22).mono ?_
      rintro e w9 ⟨R, rfl, hR, hK9⟩
      go_wp2_with fail
      go_ret
      exact ⟨R, rfl, fun e => by rw [hR, HD.out], hK2.trans hK9⟩
    have k6 : (K == 36) = false := by simp only [beq_eq_false_iff_ne]; exact k36
    by_cases k37 : K = 37
    · subst k37
      obtain ⟨nm, sp, v, hu, hn, hsp, hh, hd⟩ := hL.k37 HK.out
      have hA := Adr.of (raw := raw) (by rw [← hu]; exact hW.by_) (by
        have := hW.all
        rw [hu] at this
        exact this.right.tail.right.left) hn hsp hh
      have hrn : RnAll (strE v) := by
        have := hW.all
        rw [hu] at this
        have h3 := this.right.tail.right.left
        obtain ⟨t, ht, _⟩ := strE_cut v
        rw [ht] at h3
        exact h3.left
      have HRN := Lib.hid hrn
      obtain ⟨i0, hi0⟩ : ∃ i, 4 + (encs sp).length = i := ⟨_, rfl⟩
      rw [hi0] at hA
      obtain ⟨j0, hj0⟩ : ∃ j, i0 + (encs (strE v)).length = j := ⟨_, rfl⟩
      rw [hj0] at hA
      have HA := Lib.hid hA
      have HD := Lib.hid hd
      obtain ⟨l1, l2, l3⟩ := hA.le
      have hcl := hA.close
      clear hA hd hrn hi0 hj0 hh hsp hn hu hL hW k29 k01
      have hz1 : (0 : Int) ≤ (raw.size : Int) - 1 := by omega
      have hz2 : ((raw.size : Int) - 1).toNat = raw.size - 1 := by omega
      have hz3 : (raw.size : Int) - 1 < raw.size := by omega
      have hz4 : (j0 : Int) ≤ (raw.size : Int) - 1 := by omega
      go_upto_block 1 with (fail)
      clear hcl
      go_cut [6] (fun v wx => v = .int .i64 (i0 : Nat) ∧ wx = wc)
      case first =>
        go_wp2_with fail
        go_loopg [6] (i0 - 4) (fun k v wr => ∃ i : Nat, v = .int .i64 (i : Nat) ∧ k = i0 - i ∧ 4 ≤ i ∧ i ≤ i0 ∧ wr = wc)
        case atStart => exact ⟨4, rfl, rfl, Nat.le_refl _, l1, rfl⟩
        case round =>
          obtain ⟨i, rfl, hk, hi4, hii, hw⟩ := hrel
          subst wr
          have HK2 := Lib.hid hk
          clear hk
          by_cases hlt : i < i0
          · have hz5 : (i : Int) < (raw.size : Int) - 1 := by omega
            have hz6 : (0 : Int) ≤ i := by omega
            have hz7 : i < raw.size := by omega
            obtain ⟨x, hx⟩ : ∃ x : Nat, ∀ h : i < raw.size, ((raw[i]'h).toNat) = x := ⟨(raw[i]'hz7).toNat, fun _ => rfl⟩
            have hx3 : x < 256 := by rw [← hx hz7]; exact UInt8.toNat_lt _
            have hws : isSp (x : Int) = true := by rw [← hx hz7]; exact HA.out.left i hi4 hlt hz7
            go_wp2_with (go_at_call 34; refine (isWhitespace_calls _ _).mono ?_; rintro e w' ⟨rfl, rfl⟩)
            go_roundg (i0 - (i + 1))
            case measure => have := HK2.out; omega
            case rel => exact ⟨i + 1, rfl, rfl, by omega, by omega, rfl⟩
          · have hie : i = i0 := by omega
            subst hie
            by_cases hij : i < j0
            · have hz5 : (i : Int) < (raw.size : Int) - 1 := by omega
              have hz6 : (0 : Int) ≤ i := by omega
              have hz7 : i < raw.size := by omega
              obtain ⟨x, hx⟩ : ∃ x : Nat, ∀ h : i < raw.size, ((raw[i]'h).toNat) = x := ⟨(raw[i]'hz7).toNat, fun _ => rfl⟩
              have hx3 : x < 256 := by rw [← hx hz7]; exact UInt8.toNat_lt _
              have hws : isSp (x : Int) = false := by rw [← hx hz7]; exact HA.out.first hij hz7
              go_wp2_with (go_at_call 34; refine (isWhitespace_calls _ _).mono ?_; rintro e w' ⟨rfl, rfl⟩)
              go_meet
              case rel => exact ⟨rfl, rfl⟩
            · have hz5 : ¬ (i : Int) < (raw.size : Int) - 1 := by have := HA.out.none (by omega); omega
              go_wp2_with fail
              go_meet
              case rel => exact ⟨rfl, rfl⟩
      case rest =>
        obtain ⟨rfl, hw⟩ := hcut
        subst hw
        go_upto_block 3 with (fail)
        go_cut [7] (fun v wx => v = .int .i64 (j0 : Nat) ∧ wx = wc)
        case first =>
          go_wp2_with fail
          go_loopg [7] (raw.size - 1 - j0) (fun k v wr => ∃ i : Nat, v = .int .i64 (i : Nat) ∧ k = i - j0 ∧ j0 ≤ i ∧ i + 1 ≤ raw.size ∧ wr = wc)
          case atStart => exact ⟨raw.size - 1, by congr 1; omega, rfl, by omega, by omega, rfl⟩
          case round =>
            obtain ⟨i, rfl, hk, hi4, hii, hw⟩ := hrel
            subst wr
            have HK2 := Lib.hid hk
            clear hk
            by_cases hlt : j0 < i
            · have hz5 : (i0 : Int) < i := by omega
              have hz6 : (0 : Int) ≤ (i : Int) - 1 := by omega
              have hz6' : ((i : Int) - 1).toNat = i - 1 := by omega
              have hz7 : i - 1 < raw.size := by omega
              have hz8 : (i : Int) - 1 < raw.size := by omega
              obtain ⟨x, hx⟩ : ∃ x : Nat, ∀ h : i - 1 < raw.size, ((raw[i - 1]'h).toNat) = x := ⟨(raw[i - 1]'hz7).toNat, fun _ => rfl⟩
              have hx3 : x < 256 := by rw [← hx hz7]; exact UInt8.toNat_lt _
              have hws : isSp (x : Int) = true := by rw [← hx hz7]; exact HA.out.right (i - 1) (by omega) (by omega) hz7
              go_wp2_with (go_at_call 34; refine (isWhitespace_calls _ _).mono ?_; rintro e w' ⟨rfl, rfl⟩)
              go_roundg (i - 1 - j0)
              case measure => have := HK2.out; omega
              case rel => exact ⟨i - 1, by congr 1; omega, rfl, by omega, by omega, rfl⟩
            · have hie : i = j0 := by omega
              subst hie
              by_cases hij : i0 < i
              · have hz5 : (i0 : Int) < i := by omega
                have hz6 : (0 : Int) ≤ (i : Int) - 1 := by omega
                have hz6' : ((i : Int) - 1).toNat = i - 1 := by omega
                have hz7 : i - 1 < raw.size := by omega
                have hz8 : (i : Int) - 1 < raw.size := by omega
                obtain ⟨x, hx⟩ : ∃ x : Nat, ∀ h : i - 1 < raw.size, ((raw[i - 1]'h).toNat) = x := ⟨(raw[i - 1]'hz7).toNat, fun _ => rfl⟩
                have hx3 : x < 256 := by rw [← hx hz7]; exact UInt8.toNat_lt _
                have hws : isSp (x : Int) = false := by rw [← hx hz7]; exact HA.out.last hij hz7
                go_wp2_with (go_at_call 34; refine (isWhitespace_calls _ _).mono ?_; rintro e w' ⟨rfl, rfl⟩)
                go_meet
                case rel => exact ⟨rfl, rfl⟩
              · have hz5 : ¬ (i0 : Int) < i := by omega
                go_wp2_with fail
                go_meet
                case rel => exact ⟨rfl, rfl⟩
        case rest =>
          obtain ⟨rfl, hw⟩ := hcut
          subst hw
          have hz5 : (0 : Int) ≤ i0 := by omega
          have hz6 : (i0 : Int) ≤ j0 := by omega
          have hz7 : (j0 : Int) ≤ raw.size := by omega
          have HZ : Hid ((raw.extract i0 j0).size ≤ 1073741824) := Lib.hid (by rw [ByteArray.size_extract]; omega)
          have HWV : Hid (Wt (raw.extract i0 j0) (strE v)) := Lib.hid ⟨HA.out.ext, HRN.out⟩
          go_wp2_with fail
          refine (decode_calls HWV.out HZ.out _ hU2 h22).mono ?_
          rintro e w9 ⟨R, rfl, hR, hK9⟩
          go_wp2_with fail
          go_ret
          exact ⟨R, rfl, fun e => by rw [hR, HD.out], hK2.trans hK9⟩
    have k7 : (K == 37) = false := by simp only [beq_eq_false_iff_ne]; exact k37
    have HN : Hid (¬ hasT tok.kind = true) := Lib.hid (by
      rw [HK.out]
      unfold hasT
      simp only [Bool.or_eq_true, beq_iff_eq]
      omega)
    clear k29 k01 k27 k36 k37
    go_wp2_with fail
    go_ret
    exact ⟨raw, rfl, fun e => absurd e HN.out, hK2⟩
end Go.Proofs.YtedckphklebndaaGreatDoor
/- The laws' Tokens, walked: the package's tokens as the laws see them. Conditions: those of Tokenize. -/
namespace Go.Proofs.YtedckphklebndaaGreatDoor
open Go Go.RowKit
/-- The loop of Tokens. -/
def TKL (w1 : World) (s : ByteArray) (dn : List ((Tok × List Int × List Int) × Int)) (n : Nat) (a i : Value) (w : World) : Prop :=
  ∃ (j : Nat) (O : List PT), i = .int .i64 (j : Nat) ∧ n = dn.length - j ∧ j ≤ dn.length ∧ Fa2 (PR s) ((dn.map Prod.fst).take j) O ∧ O.length = j ∧ Rw w w1.heap.size a O ∧ Below w1.heap.size w1 w
theorem fld54 (p : Option Addr) (n cp : Nat) (b c d e f x : Value) (w : World) : (Instr.field 54 (.agg #[.slice p n cp, b, c, d, e, f, x]) 0).run Tryz.prog w = .ok (.slice p n cp) w := by kernel_rfl
theorem lxC_get (s : ByteArray) (L : List ((Tok × List Int × List Int) × Int)) (j i : Nat) (p) (hj : L[j]? = some p) (hi : i < 5) : (L.flatMap (lxC s))[j * 5 + i]? = (lxC s p)[i]? := by
  induction L generalizing j with
  | nil => cases hj
  | cons q L ih =>
    have e : (q :: L).flatMap (lxC s) = lxC s q ++ L.flatMap (lxC s) := rfl
    have hl : (lxC s q).length = 5 := rfl
    cases j with
    | zero =>
      simp only [List.getElem?_cons_zero, Option.some.injEq] at hj
      subst hj
      rw [e, List.getElem?_append_left (by omega)]
      congr 1; omega
    | succ j =>
      rw [e, List.getElem?_append_right (by omega), hl, show (j + 1) * 5 + i - 5 = j * 5 + i by omega]
      exact ih j (by simpa using hj)
theorem lx_row {w : World} {B j : Nat} {v : Value} {s : ByteArray} {dn : List ((Tok × List Int × List Int) × Int)} (h : w.ownsRow B 60 5 v dn.length (dn.flatMap (lxC s))) (hj : j < dn.length) : ∃ (g cap : Nat) (cur : Array Value) (p : (Tok × List Int × List Int) × Int), v = .slice (some ⟨g, 0, none⟩) dn.length cap ∧ w.heap[g]? = some (.cells cur 60 (0, 0)) ∧ dn[j]? = some p ∧ ∀ i, i < 5 → cur[j * 5 + i]? = (lxC s p)[i]? := by
  rcases h.2 with ⟨rfl, hn⟩ | ⟨g, cap, cur, rfl, hb, hg, hc, hm, hs, ht⟩
  · omega
  · refine ⟨g, cap, cur, dn[j], rfl, hg, List.getElem?_eq_getElem hj, fun i hi => ?_⟩
    have e := lxC_get s dn j i _ (List.getElem?_eq_getElem hj) hi
    rw [← ht, List.getElem?_take_of_lt (by omega)] at e
    rw [← e]; simp
/-- What Tokens leaves. -/
def T12P (w : World) (s : ByteArray) (l : List Int) (e : Ending) (w' : World) : Prop := ∃ v L, e = .returned v ∧ Fa2 (PR s) (ptoks l) L ∧ Rw w' w.heap.size v L ∧ Below w.heap.size w w'
theorem Fa2.snoc {α β : Type} {R : α → β → Prop} {a : List α} {b : List β} {x : α} {y : β} (h : Fa2 R a b) (r : R x y) : Fa2 R (a ++ [x]) (b ++ [y]) := by
  induction h with
  | nil => exact .cons r .nil
  | cons h _ ih => exact .cons h ih
theorem TKL.push {w1 wb w3 : World} {s : ByteArray} {dn : List ((Tok × List Int × List Int) × Int)} {O : List PT} {p : PT} {j gg cap : Nat} {v : Value} {o : Obj} (hfa : Fa2 (PR s) ((dn.map Prod.fst).take (j + 1)) (O ++ [p])) (hol : O.length = j) (ho : w3.ownsRow w1.heap.size 28 6 (.slice (some ⟨gg, 0, none⟩) (O.length + 1) cap) (O.length + 1) (rowC O ++ [.int .i64 p.k, .int .i64 p.a, .int .i64 p.b, .int .i64 p.u, .bool p.id, .string p.t])) (hg : (wb.alloc o).grownBy w3 v.ownBlock)
    (hr : Rw wb w1.heap.size v O) (hb : Below w1.heap.size w1 wb) (hlt : j < dn.length) : TKL w1 s dn (dn.length - (j + 1)) (.slice (some ⟨gg, 0, none⟩) (O.length + 1) cap) (.int .i64 ((j : Int) + 1)) w3 := by
  have hw := hb.size
  refine ⟨j + 1, O ++ [p], by simp, rfl, by omega, hfa, by simp; omega, ?_, ?_⟩
  · unfold Rw
    rw [rowC_snoc, List.length_append]
    exact ho
  · refine (hb.alloc hb.size _).trans ((Keep.of_grown hg (fun k => v.ownBlock = some k) (fun k e => e)).below (by simp; omega) (fun k _ e => (hr.lt k e).1))
/-- A token's letters mean its text. -/
theorem tok_ltr {l : List Int} {t : Tok × List Int × List Int} (h : t ∈ ptoks l) (ho : (toks l).2 = false) : Ltr t.1 (lets t) := by
  obtain ⟨hne, _, hk, he, hop⟩ := mem_ptoks h ho
  have hu := lets_eq h ho
  have hlt := endF_lt hne
  rw [← he] at hlt
  have hu0 : lets t ≠ [] := by
    intro e
    rw [e] at hu
    rw [hu] at hlt
    simp at hlt
  cases hsp : isSp (hd t.2.1) with
  | true =>
    rw [hk, nextF_space hsp]
    exact Ltr.none (show (38 : Int) ≠ 29 ∧ (38 : Int) ≠ 1 ∧ (38 : Int) ≠ 28 ∧ (38 : Int) ≠ 27 ∧ (38 : Int) ≠ 36 ∧ (38 : Int) ≠ 37 by decide)
  | false =>
    have h3 : endF t.2.1 = (nextF t.2.1).2.1 := by unfold endF; rw [if_neg (by rw [hsp]; decide)]
    refine ltr_next hu0 (e := t.2.2) ?_
    rw [← hu]
    exact Prod.ext hk.symm (Prod.ext (by rw [he, h3]) hop)
theorem tok_wt {s : ByteArray} {l : List Int} {t : Tok × List Int × List Int} (hS : Sfx s l) (h : t ∈ ptoks l) (ho : (toks l).2 = false) : Wt (s.extract (ps s t.2.1) (ps s t.2.2)) (lets t) ∧ ps s t.2.1 ≤ ps s t.2.2 := by
  have hu := lets_eq h ho
  have hx := hS.suf (mem_ptoks h ho).2.1
  have hx2 := hx
  rw [hu] at hx2
  have hc := hx2.cut
  rw [← hu] at hc
  exact ⟨⟨hc.1, hx2.all.left⟩, hc.2⟩
theorem FL.bit {p : (Tok × List Int × List Int) × Int} (h : FL p) : ∃ an : Int, bits BinOp.and .u8 p.2 1 = an ∧ (an != 0) = p.1.1.id := by
  obtain ⟨h1, h2⟩ := h
  rcases h1 with e | e | e
  · refine ⟨0, by rw [e]; rfl, ?_⟩
    cases q : p.1.1.id with
    | false => rfl
    | true => have := h2.2 q; omega
  · refine ⟨1, by rw [e]; rfl, ?_⟩
    rw [h2.1 e]; rfl
  · refine ⟨0, by rw [e]; rfl, ?_⟩
    cases q : p.1.1.id with
    | false => rfl
    | true => have := h2.2 q; omega
set_option maxRecDepth 100000 in
set_option maxHeartbeats 8000000 in
theorem Tokens12_calls {w : World} {s : ByteArray} {l : List Int} (h : Sfx s l) (h0 : ps s l = 0) (hs : s.size ≤ 524288) (hbom : hd l ≠ 65279) (ho : (toks l).2 = false) (h2 : 2 ≤ w.heap.size) (htab : Lib.Utf8Tabs 0 1 w) :
    Calls Tryz.prog 12 #[.string s] w (T12P w s l) := by
  go_enter Tryz.func12, Tryz.ntmps12
  have hx := tok23_calls h h0 hs hbom ho h2 htab
  go_wp2_with (go_at_call 23; refine hx.mono ?_; rintro e w1 ⟨dn, a, b, c, d, e1, f1, x, rfl, hall, hown, hFL, hmap, hb1⟩; obtain ⟨p9, cp9, rfl⟩ := own_slice hown; have hf54 := fun w => fld54 p9 dn.length cp9 b c d e1 f1 x w)
  have HS := Lib.hid h
  have HO := Lib.hid ho
  have HFL := Lib.hid hFL
  have HMP := Lib.hid hmap
  have HS0 := Lib.hid hs
  clear h hbom ho hFL hmap hx h0 hs
  go_loopg [3, 11] dn.length (fun n a i wr => TKL w1 s dn n a i wr)
  case atStart => exact ⟨0, [], rfl, rfl, Nat.zero_le _, .nil, rfl, World.ownsRow_nil _ _ _ _, Below.refl _ _⟩
  case round =>
    obtain ⟨j, O, rfl, hn, hj, hfa, hol, hrw, hbel⟩ := hrel
    have HN := Lib.hid hn
    have HFA := Lib.hid hfa
    clear hn hfa
    by_cases hlt : j < dn.length
    · obtain ⟨g2, cap2, cur, p, hv, hg2, hp, hcur⟩ := lx_row hown hlt
      injection hv with hv1 hv2 hv3
      subst hv1 hv3
      have HP := Lib.hid hp
      have hpm : p.1 ∈ ptoks l := by
        rw [← HMP.out]; exact List.mem_map_of_mem (List.mem_of_getElem? hp)
      have HFP := Lib.hid (HFL.out p (List.mem_of_getElem? hp))
      have HPM := Lib.hid hpm
      clear hp hpm
      have hgr : wr.heap[g2]? = some (.cells cur 60 (0, 0)) := (hbel.block g2 (lt_of_blk hg2)).trans hg2
      have y0 : wr.cell? ⟨g2, j * 5, none⟩ = some (.int .i32 (ps s p.1.2.1)) := (blk_cell hgr (j * 5 + 0)).trans (hcur 0 (by decide))
      have y1 : wr.cell? ⟨g2, j * 5 + 1, none⟩ = some (.int .i32 ((ps s p.1.2.2 : Int) - ps s p.1.2.1)) := (blk_cell hgr (j * 5 + 1)).trans (hcur 1 (by decide))
      have y2 : wr.cell? ⟨g2, j * 5 + 2, none⟩ = some (.int .u16 (p.1.1.unit % 65536)) := (blk_cell hgr (j * 5 + 2)).trans (hcur 2 (by decide))
      have y3 : wr.cell? ⟨g2, j * 5 + 3, none⟩ = some (.int .u8 p.1.1.kind) := (blk_cell hgr (j * 5 + 3)).trans (hcur 3 (by decide))
      have y4 : wr.cell? ⟨g2, j * 5 + 4, none⟩ = some (.int .u8 p.2) := (blk_cell hgr (j * 5 + 4)).trans (hcur 4 (by decide))
      have HJB : Hid (j ≤ 1099511627776) := Lib.hid (by
        have e1 := congrArg List.length HMP.out
        rw [List.length_map] at e1
        have e2 := ptoks_len l
        have e3 := encs_ge l
        have e4 := HS.out.fits
        have := HS0.out
        omega)
      have hj1 : (j : Int) < dn.length := by omega
      have hj0 : (0 : Int) ≤ j := by omega
      go_upto_region 5 with (fail)
      have hKb : KeepA wr (wr.alloc (.cells #[.int .i32 (ps s p.1.2.1), .int .i32 ((ps s p.1.2.2 : Int) - ps s p.1.2.1), .int .u16 (p.1.1.unit % 65536), .int .u8 p.1.1.kind, .int .u8 p.2] 60)) := (Keep.refl _ _).alloc _
      have hBx : (wr.alloc (.cells #[.int .i32 (ps s p.1.2.1), .int .i32 ((ps s p.1.2.2 : Int) - ps s p.1.2.1), .int .u16 (p.1.1.unit % 65536), .int .u8 p.1.1.kind, .int .u8 p.2] 60)).heap[wr.heap.size]? = some (.cells #[.int .i32 (ps s p.1.2.1), .int .i32 ((ps s p.1.2.2 : Int) - ps s p.1.2.1), .int .u16 (p.1.1.unit % 65536), .int .u8 p.1.1.kind, .int .u8 p.2] 60 (0, 0)) := heap_alloc_new wr _
      obtain ⟨wb, hwb⟩ : ∃ x, (wr.alloc (.cells #[.int .i32 (ps s p.1.2.1), .int .i32 ((ps s p.1.2.2 : Int) - ps s p.1.2.1), .int .u16 (p.1.1.unit % 65536), .int .u8 p.1.1.kind, .int .u8 p.2] 60)) = x := ⟨_, rfl⟩
      obtain ⟨X, hXe⟩ : ∃ x, wr.heap.size = x := ⟨_, rfl⟩
      rw [hwb] at hKb hBx ⊢
      rw [hXe] at hBx ⊢
      have hXb : X < wb.heap.size := lt_of_blk hBx
      clear hwb hXe y0 y1 y2 y3 y4 hgr hcur hf54 hall
      have hTB := ptoks_b HPM.out HO.out
      obtain ⟨hWt, hle⟩ := tok_wt HS.out HPM.out HO.out
      have HLT := Lib.hid (tok_ltr HPM.out HO.out)
      have HWT := Lib.hid hWt
      have hpe : ps s p.1.2.2 ≤ 1073741824 := Nat.le_trans (ps_le _ _) (by have := HS0.out; omega)
      have hpa : ps s p.1.2.1 ≤ 1073741824 := Nat.le_trans hle hpe
      have HPES := Lib.hid (ps_le s p.1.2.2)
      have hu0 : 0 ≤ p.1.1.unit % 65536 := Int.emod_nonneg _ (by decide)
      have hu1 : p.1.1.unit % 65536 < 65536 := Int.emod_lt_of_pos _ (by decide)
      have hk0 := hTB.k0
      have hk1 := hTB.k1
      obtain ⟨an, hand, hne⟩ := HFP.out.bit
      clear hTB hWt
      have HPA : ∃ x, x = ps s p.1.2.1 := ⟨_, rfl⟩
      obtain ⟨pa, HPA⟩ := HPA
      have HPE : ∃ x, x = ps s p.1.2.2 := ⟨_, rfl⟩
      obtain ⟨pe, HPE⟩ := HPE
      have HUN : ∃ x, x = p.1.1.unit % 65536 := ⟨_, rfl⟩
      obtain ⟨un, HUN⟩ := HUN
      have HKD : ∃ x, x = p.1.1.kind := ⟨_, rfl⟩
      obtain ⟨kd, HKD⟩ := HKD
      have HID : ∃ x, x = p.1.1.id := ⟨_, rfl⟩
      obtain ⟨id, HID⟩ := HID
      have HFG : ∃ x, x = p.2 := ⟨_, rfl⟩
      obtain ⟨fl, HFG⟩ := HFG
      rw [← HPA] at hpa hle
      rw [← HPE] at hpe hle
      rw [← HUN] at hu0 hu1
      rw [← HKD] at hk0 hk1
      rw [← HID] at hne
      rw [← HFG] at hand
      rw [← HPA, ← HPE, ← HUN, ← HKD, ← HFG] at hBx ⊢
      have HDT := fun (wq : World) (hU : Lib.Utf8Tabs 0 1 wq) (hq : 2 ≤ wq.heap.size) => DecodedText_calls HWT.out HLT.out rfl (by rw [← HPA, ← HPE]; exact hle) HPES.out (by have := HS0.out; omega) un fl wq hU hq
      rw [← HPA, ← HPE, ← HKD] at HDT
      have HPA' := Lib.hid HPA
      have HPE' := Lib.hid HPE
      have HUN' := Lib.hid HUN
      have HKD' := Lib.hid HKD
      have HID' := Lib.hid HID
      clear HPA HPE HUN HKD HID HFG
      refine wp_mono (t12_at fl an id hand hne wb X _ rfl rfl kd un pa pe hBx ⟨hk0, hk1⟩ ⟨hu0, hu1⟩ hpa hpe) ?_
      rintro e a w5 ⟨rfl, Y, h', rfl, hYb, hY, hK5⟩
      simp only [List.getD_cons_zero, List.getD_cons_succ]
      have hX5 := hK5.blk hBx (fun x => x)
      have hK := hKb.trans hK5
      have hbel5 : Below w1.heap.size w1 w5 := hbel.trans (hK.below hbel.size (fun _ _ e => e.elim))
      have hrw5 : Rw w5 w1.heap.size u3 O := hrw.keep hK
      have htab5 : Lib.Utf8Tabs 0 1 w5 := tabs_keep htab ((Keep.of_below hb1 (fun _ => False)).trans (Keep.of_below hbel5 (fun _ => False))) (fun e => e) (fun e => e)
      have h25 : 2 ≤ w5.heap.size := Nat.le_trans h2 (Nat.le_trans hb1.size hbel5.size)
      have hYX : Y ≠ X := by have := hXb; omega
      have hrwb : Rw wb w1.heap.size u3 O := hrw.keep hKb
      have hnY : ∀ k, u3.ownBlock = some k → k ≠ Y := fun k e => by have := (hrwb.lt k e).2; omega
      have hYw : w1.heap.size ≤ Y := by have := hbel.size; have := hKb.size; omega
      clear hK hKb hK5 hrw hbel hBx hrwb
      have q0 : w5.cell? ⟨X, 0, none⟩ = some (.int .i32 pa) := (blk_cell hX5 0).trans rfl
      have q1 : w5.cell? ⟨X, 1, none⟩ = some (.int .i32 ((pe : Int) - pa)) := (blk_cell hX5 1).trans rfl
      have q2 : w5.cell? ⟨X, 2, none⟩ = some (.int .u16 un) := (blk_cell hX5 2).trans rfl
      have q3 : w5.cell? ⟨X, 3, none⟩ = some (.int .u8 kd) := (blk_cell hX5 3).trans rfl
      have q4 : w5.cell? ⟨X, 4, none⟩ = some (.int .u8 fl) := (blk_cell hX5 4).trans rfl
      go_upto_region 7 with (go_at_call 25; refine (HDT _ htab5 h25).mono ?_; rintro e w6 ⟨R, rfl, hR, hK6⟩; have hY6 := hK6.blk hY (fun x => x); have f5 := blk_frozen hY6 5; have x5 : w6.cell? ⟨Y, 5, none⟩ = some (.string ⟨#[]⟩) := (blk_cell hY6 5).trans rfl)
      have hYs : (w6.setCell ⟨Y, 5, none⟩ (.string R)).heap[Y]? = some (.cells #[.int .i64 kd, .int .i64 pa, .int .i64 pe, .int .i64 un, .bool id, .string R] 28 (0, 0)) := (blk_set hY6 5 (.string R)).trans rfl
      have hKY : Keep (fun k => k = Y) w6 (w6.setCell ⟨Y, 5, none⟩ (.string R)) := (Keep.refl (fun k => k = Y) w6).setCell (fun _ => rfl) _
      have HRW : Hid (Rw (w6.setCell ⟨Y, 5, none⟩ (.string R)) w1.heap.size u3 O) := Lib.hid (hKY.own (hrw5.keep hK6) hnY)
      have hbS : Below w1.heap.size w1 (w6.setCell ⟨Y, 5, none⟩ (.string R)) := (hbel5.trans (hK6.below hbel5.size (fun _ _ e => e.elim))).trans (hKY.below (by have := hbel5.size; have := hK6.size; omega) (fun k _ e => by rw [e]; exact hYw))
      obtain ⟨wS, hwS⟩ : ∃ x, w6.setCell ⟨Y, 5, none⟩ (.string R) = x := ⟨_, rfl⟩
      rw [hwS] at hYs HRW hbS ⊢
      clear hwS hKY f5 x5 hY6 hK6 hrw5 hbel5 htab5 h25 hY hX5 q0 q1 q2 q3 q4
      have z0 : wS.cell? ⟨Y, 0, none⟩ = some (.int .i64 kd) := (blk_cell hYs 0).trans rfl
      have z1 : wS.cell? ⟨Y, 1, none⟩ = some (.int .i64 pa) := (blk_cell hYs 1).trans rfl
      have z2 : wS.cell? ⟨Y, 2, none⟩ = some (.int .i64 pe) := (blk_cell hYs 2).trans rfl
      have z3 : wS.cell? ⟨Y, 3, none⟩ = some (.int .i64 un) := (blk_cell hYs 3).trans rfl
      have z4 : wS.cell? ⟨Y, 4, none⟩ = some (.bool id) := (blk_cell hYs 4).trans rfl
      have z5 : wS.cell? ⟨Y, 5, none⟩ = some (.string R) := (blk_cell hYs 5).trans rfl
      have HFN : Hid (Fa2 (PR s) ((dn.map Prod.fst).take (j + 1)) (O ++ [⟨kd, pa, pe, un, id, R⟩])) := Lib.hid (by
        have e : (dn.map Prod.fst)[j]? = some p.1 := by rw [List.getElem?_map, HP.out]; rfl
        rw [List.take_add_one, e]
        refine HFA.out.snoc ⟨HKD'.out, congrArg Int.ofNat HPA'.out, congrArg Int.ofNat HPE'.out, HUN'.out, HID'.out, hR⟩)
      obtain ⟨i0, hi0, hy0, hy1, hy2⟩ := info_parts info28
      have hbl := hbS.size
      have hob : O.length ≤ 1099511627776 := by rw [hol]; exact HJB.out
      have HOL := Lib.hid hol
      have hjb : j ≤ 1099511627776 := HJB.out
      clear hR hol
      go_wp2_with (at_builtin; refine wpList_append_lies _ rfl _ _ 24 rfl w1.heap.size 28 i0 _ 6 56 Tryz.underlying24 hi0 hy0 hy1 hy2 rfl (by decide) u3 O.length (rowC O) rfl (HRW.out.alloc _) ⟨wS.heap.size, 0, none⟩ 1 1 [.int .i64 kd, .int .i64 pa, .int .i64 pe, .int .i64 un, .bool id, .string R] rfl rfl (World.news_of_block (cs := #[.int .i64 kd, .int .i64 pa, .int .i64 pe, .int .i64 un, .bool id, .string R]) (t := 28) (fr := (0, 0)) (heap_alloc_new wS _)) (by simp [Value.oneCell']) (by decide) (by unfold maxLen; omega) (by omega) (by simp; omega) (wS.heap.size + 1) (by simp) ?_; intro gg cap3 w3 hown3 hgrow hat hlt3; have HO3 := Lib.hid hown3; have HG3 := Lib.hid hgrow; clear hown3 hgrow hat)
      go_roundg (dn.length - (j + 1))
      case measure => have := HN.out; omega
      case rel => exact TKL.push HFN.out HOL.out HO3.out HG3.out HRW.out hbS hlt
    · have HF : Hid (Fa2 (PR s) (ptoks l) O) := Lib.hid (by
        have e := HFA.out
        rw [List.take_of_length_le (by rw [List.length_map]; omega), HMP.out] at e
        exact e)
      have hj1 : ¬ (j : Int) < dn.length := by omega
      go_wp2_with fail
      go_ret
      exact ⟨u3, O, rfl, HF.out, ownsRow_low hrw hb1.size, hb1.trans (Below.low hbel hb1.size)⟩
end Go.Proofs.YtedckphklebndaaGreatDoor
