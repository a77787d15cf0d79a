/- The package's decodeEscapesInToken, walked. Conditions: a plain text of at most 2^30 bytes; the tables of unicode/utf8 lie in blocks 0 and 1. -/
import Derived.Test.YtedckphklebndaaGreatDoorQY4
import Derived.Deep.CutBlock
import Derived.Test.YtedckphklebndaaGreatDoorQGX5
import Derived.Deep.RegionHeld3
import Derived.Test.YtedckphklebndaaGreatDoorQGR26
import Derived.Test.YtedckphklebndaaGreatDoorQGP1
import Derived.OrdersHeld
namespace Go.Proofs.YtedckphklebndaaGreatDoor
open Go Go.RowKit
set_option maxRecDepth 100000 in
theorem letters156 (f : Nat → Value) : (List.range' 1 155).map f = [f 1, f 2, f 3, f 4, f 5, f 6, f 7, f 8, f 9, f 10, f 11, f 12, f 13, f 14, f 15, f 16, f 17, f 18, f 19, f 20, f 21, f 22, f 23, f 24, f 25, f 26, f 27, f 28, f 29, f 30, f 31, f 32, f 33, f 34, f 35, f 36, f 37, f 38, f 39, f 40, f 41, f 42, f 43, f 44, f 45, f 46, f 47, f 48, f 49, f 50, f 51, f 52, f 53, f 54, f 55, f 56, f 57, f 58, f 59, f 60, f 61, f 62, f 63, f 64, f 65, f 66, f 67, f 68, f 69, f 70, f 71, f 72, f 73, f 74, f 75, f 76, f 77, f 78, f 79, f 80, f 81, f 82, f 83, f 84, f 85, f 86, f 87, f 88, f 89, f 90, f 91, f 92, f 93, f 94, f 95, f 96, f 97, f 98, f 99, f 100, f 101, f 102, f 103, f 104, f 105, f 106, f 107, f 108, f 109, f 110, f 111, f 112, f 113, f 114, f 115, f 116, f 117, f 118, f 119, f 120, f 121, f 122, f 123, f 124, f 125, f 126, f 127, f 128, f 129, f 130, f 131, f 132, f 133, f 134, f 135, f 136, f 137, f 138, f 139, f 140, f 141, f 142, f 143, f 144, f 145, f 146, f 147, f 148, f 149, f 150, f 151, f 152, f 153, f 154, f 155] := rfl
theorem list_letters0 (l : List Value) (d : Value) (n : Nat) : l = (List.range' n l.length).map (fun i => l.getD (i - n) d) := by
  refine List.ext_getElem (by simp) ?_
  intro i h1 h2
  simp only [List.getElem_map, List.getElem_range', Nat.one_mul, Nat.add_sub_cancel_left]
  rw [List.getD_eq_getElem?_getD, List.getElem?_eq_getElem h1]
  rfl
set_option maxRecDepth 100000 in
theorem open156 {t : Array Value} {p : Value} (h : t.size = 156) (h0 : t[0]? = some p) : ∃ f : Nat → Value, t = #[p, f 1, f 2, f 3, f 4, f 5, f 6, f 7, f 8, f 9, f 10, f 11, f 12, f 13, f 14, f 15, f 16, f 17, f 18, f 19, f 20, f 21, f 22, f 23, f 24, f 25, f 26, f 27, f 28, f 29, f 30, f 31, f 32, f 33, f 34, f 35, f 36, f 37, f 38, f 39, f 40, f 41, f 42, f 43, f 44, f 45, f 46, f 47, f 48, f 49, f 50, f 51, f 52, f 53, f 54, f 55, f 56, f 57, f 58, f 59, f 60, f 61, f 62, f 63, f 64, f 65, f 66, f 67, f 68, f 69, f 70, f 71, f 72, f 73, f 74, f 75, f 76, f 77, f 78, f 79, f 80, f 81, f 82, f 83, f 84, f 85, f 86, f 87, f 88, f 89, f 90, f 91, f 92, f 93, f 94, f 95, f 96, f 97, f 98, f 99, f 100, f 101, f 102, f 103, f 104, f 105, f 106, f 107, f 108, f 109, f 110, f 111, f 112, f 113, f 114, f 115, f 116, f 117, f 118, f 119, f 120, f 121, f 122, f 123, f 124, f 125, f 126, f 127, f 128, f 129, f 130, f 131, f 132, f 133, f 134, f 135, f 136, f 137, f 138, f 139, f 140, f 141, f 142, f 143, f 144, f 145, f 146, f 147, f 148, f 149, f 150, f 151, f 152, f 153, f 154, f 155] := by
  obtain ⟨l⟩ := t
  cases l with
  | nil => cases h
  | cons a l =>
    simp only [List.size_toArray, List.length_cons, Nat.reduceEqDiff] at h
    simp only [List.getElem?_toArray, List.getElem?_cons_zero, Option.some.injEq] at h0
    subst h0
    have e := list_letters0 l a 1
    rw [h, letters156] at e
    exact ⟨fun i => l.getD (i - 1) a, congrArg (fun x => (⟨a :: x⟩ : Array Value)) e⟩
set_option maxRecDepth 1000000 in
theorem DcF.open {b : Nat} {X : ByteArray} {a : Act} (h : DcF b X a) : ∃ f : Nat → Value, a = ⟨#[.string X, f 1, f 2, f 3, f 4, .pointer (some ⟨b, 0, none⟩), f 6, f 7, f 8, f 9, f 10, f 11, f 12, f 13, f 14, f 15, f 16, f 17, f 18, f 19, f 20, f 21, f 22, f 23, f 24, f 25, f 26, f 27, f 28, f 29, f 30, f 31, f 32, f 33, f 34, f 35, f 36, f 37, f 38, f 39, f 40, f 41, f 42, f 43, f 44, f 45, f 46, f 47, f 48, f 49, f 50, f 51, f 52, f 53, f 54, f 55, f 56, f 57, f 58, f 59, f 60, f 61, f 62, f 63, f 64, f 65, f 66, f 67, f 68, f 69, f 70, f 71, f 72, f 73, f 74, f 75, f 76, f 77, f 78, f 79, f 80, f 81, f 82, f 83, f 84, f 85, f 86, f 87, f 88, f 89, f 90, f 91, f 92, f 93, f 94, f 95, f 96, f 97, f 98, f 99, f 100, f 101, f 102, f 103, f 104, f 105, f 106, f 107, f 108, f 109, f 110, f 111, f 112, f 113, f 114, f 115, f 116, f 117, f 118, f 119, f 120, f 121, f 122, f 123, f 124, f 125, f 126, f 127, f 128, f 129, f 130, f 131, f 132, f 133, f 134, f 135, f 136, f 137, f 138, f 139, f 140, f 141, f 142, f 143, f 144, f 145, f 146, f 147, f 148, f 149, f 150, f 151, f 152, f 153, f 154, f 155], []⟩ := by
  obtain ⟨t, d⟩ := a
  obtain ⟨h1, h2, h3, h4⟩ := h
  simp only at h1 h2 h3 h4
  subst h1
  obtain ⟨f, rfl⟩ := open156 h2 h3
  have e5 : f 5 = .pointer (some ⟨b, 0, none⟩) := Option.some.inj h4
  exact ⟨f, by rw [e5]⟩
set_option maxRecDepth 1000000 in
set_option maxHeartbeats 4000000 in
theorem dc_done {T : List UInt8} {w0 w : World} {b : Nat} {X : ByteArray} {out : List UInt8} (hX : Wt X []) (hd : out ++ decF [] = T) (hB : BK w0 w b out) (f : Nat → Value) :
    Code.wp Tryz.prog decBody (DcR T w0 b 0) ⟨#[.string X, f 1, f 2, f 3, f 4, .pointer (some ⟨b, 0, none⟩), f 6, f 7, f 8, f 9, f 10, f 11, f 12, f 13, f 14, f 15, f 16, f 17, f 18, f 19, f 20, f 21, f 22, f 23, f 24, f 25, f 26, f 27, f 28, f 29, f 30, f 31, f 32, f 33, f 34, f 35, f 36, f 37, f 38, f 39, f 40, f 41, f 42, f 43, f 44, f 45, f 46, f 47, f 48, f 49, f 50, f 51, f 52, f 53, f 54, f 55, f 56, f 57, f 58, f 59, f 60, f 61, f 62, f 63, f 64, f 65, f 66, f 67, f 68, f 69, f 70, f 71, f 72, f 73, f 74, f 75, f 76, f 77, f 78, f 79, f 80, f 81, f 82, f 83, f 84, f 85, f 86, f 87, f 88, f 89, f 90, f 91, f 92, f 93, f 94, f 95, f 96, f 97, f 98, f 99, f 100, f 101, f 102, f 103, f 104, f 105, f 106, f 107, f 108, f 109, f 110, f 111, f 112, f 113, f 114, f 115, f 116, f 117, f 118, f 119, f 120, f 121, f 122, f 123, f 124, f 125, f 126, f 127, f 128, f 129, f 130, f 131, f 132, f 133, f 134, f 135, f 136, f 137, f 138, f 139, f 140, f 141, f 142, f 143, f 144, f 145, f 146, f 147, f 148, f 149, f 150, f 151, f 152, f 153, f 154, f 155], []⟩ w := by
  conv => arg 2; whnf
  have hX0 : X.size = 0 := by rw [hX.size]; rfl
  rw [decF_nil, List.append_nil] at hd
  have HD := Lib.hid hd
  clear hX hd
  go_wp2_with fail
  exact .inr ⟨rfl, X, ⟨rfl, rfl, rfl, rfl⟩, by rw [← HD.out]; exact hB⟩
theorem dc_any {T : List UInt8} {w0 w : World} {b : Nat} {X : ByteArray} {l : List Int} {out : List UInt8} (hX : Wt X l) (hs : X.size ≤ 1073741824) (hd' : out ++ decF l = T) (hT : T.length ≤ 4294967296) (hB : BK w0 w b out) (hU : Lib.Utf8Tabs 0 1 w0) (h2 : 2 ≤ b) (f : Nat → Value) :
    Code.wp Tryz.prog decBody (DcR T w0 b l.length) ⟨#[.string X, f 1, f 2, f 3, f 4, .pointer (some ⟨b, 0, none⟩), f 6, f 7, f 8, f 9, f 10, f 11, f 12, f 13, f 14, f 15, f 16, f 17, f 18, f 19, f 20, f 21, f 22, f 23, f 24, f 25, f 26, f 27, f 28, f 29, f 30, f 31, f 32, f 33, f 34, f 35, f 36, f 37, f 38, f 39, f 40, f 41, f 42, f 43, f 44, f 45, f 46, f 47, f 48, f 49, f 50, f 51, f 52, f 53, f 54, f 55, f 56, f 57, f 58, f 59, f 60, f 61, f 62, f 63, f 64, f 65, f 66, f 67, f 68, f 69, f 70, f 71, f 72, f 73, f 74, f 75, f 76, f 77, f 78, f 79, f 80, f 81, f 82, f 83, f 84, f 85, f 86, f 87, f 88, f 89, f 90, f 91, f 92, f 93, f 94, f 95, f 96, f 97, f 98, f 99, f 100, f 101, f 102, f 103, f 104, f 105, f 106, f 107, f 108, f 109, f 110, f 111, f 112, f 113, f 114, f 115, f 116, f 117, f 118, f 119, f 120, f 121, f 122, f 123, f 124, f 125, f 126, f 127, f 128, f 129, f 130, f 131, f 132, f 133, f 134, f 135, f 136, f 137, f 138, f 139, f 140, f 141, f 142, f 143, f 144, f 145, f 146, f 147, f 148, f 149, f 150, f 151, f 152, f 153, f 154, f 155], []⟩ w := by
  cases l with
  | nil => exact dc_done hX hd' hB f
  | cons c t =>
    by_cases hc : c = 92
    · subst hc
      cases t with
      | nil => exact dc_end hX hs hd' hT hB hU h2 f
      | cons d u =>
        by_cases hx : 0 ≤ hexv d
        · exact dc_hex hX hs hd' hT hB hU h2 hx f
        · by_cases h10 : d = 10
          · exact dc_nl10 hX hs hd' hT hB hU h2 h10 f
          · by_cases h12 : d = 12
            · exact dc_nl12 hX hs hd' hT hB hU h2 h12 f
            · by_cases h13 : d = 13
              · exact dc_cr hX hs hd' hT hB hU h2 h13 f
              · exact dc_one hX hs hd' hT hB hU h2 hx (by unfold isNL; simp [h10, h12, h13]) f
    · exact dc_plain hX hs hd' hT hB hU h2 hc f
theorem dec_loop {T : List UInt8} {w0 w : World} {b k : Nat} {a : Act} (h : DcI T w0 b k a w) (hT : T.length ≤ 4294967296) (hU : Lib.Utf8Tabs 0 1 w0) (h2 : 2 ≤ b) :
    Code.wp Tryz.prog (.block 2 (.loop decBody)) (fun e a' w' => e = .normal ∧ ∃ X, DcF b X a' ∧ BK w0 w' b T) a w := by
  refine wp_block ?_
  refine wp_loop_ghost (fun k a w => DcI T w0 b k a w) k h ?_
  rintro n a1 w1 ⟨X, l, out, hf, hX, rfl, hs, hd', hB⟩
  obtain ⟨f, rfl⟩ := hf.open
  refine wp_mono (dc_any hX hs hd' hT hB hU h2 f) ?_
  intro e a' w' hq
  rcases hq with ⟨rfl, k', hlt, hI⟩ | ⟨rfl, X', hf', hB'⟩
  · exact ⟨k', hlt, hI⟩
  · exact ⟨rfl, X', hf', hB'⟩
theorem BY.byte {s : ByteArray} {i : Nat} {b : UInt8} {q : List UInt8} {t : List Int} (h : BY s i (b :: q) t) (hi : i < s.size) : s[i]'hi = b := by
  have h1 := list_get_ba s i hi
  have h2 : (s.data.toList.drop i)[0]? = some b := by rw [h.2.1]; rfl
  rw [List.getElem?_drop, Nat.add_zero, h1] at h2
  exact Option.some.inj h2
theorem DB.rune {T : ByteArray} {l : List Int} {i : Nat} {c : Int} {t : List Int} (hB : BY T i [] (c :: t)) (hi : i < T.size) (hc : c ≠ 92) (hD : T.data.toList.take i ++ ([] ++ decF (c :: t)) = decF l) :
    T.data.toList.take (i + 1) ++ ((enc c).tail ++ decF t) = decF l := by
  obtain ⟨tl, he⟩ := enc_lead hB.2.2.1.head
  have h1 := list_get_ba T i hi
  have h2 : (T.data.toList.drop i)[0]? = some (lead c).toNat.toUInt8 := by rw [hB.2.1]; simp [encs, he]
  rw [List.getElem?_drop, Nat.add_zero, h1] at h2
  have h3 := Option.some.inj h2
  rw [← hD, decF_plain hc, he, List.nil_append, List.tail_cons, List.cons_append]
  exact DB.step hi h3 _
set_option maxRecDepth 100000 in
set_option maxHeartbeats 8000000 in
theorem decode_calls {T : ByteArray} {l : List Int} (h : Wt T l) (hs : T.size ≤ 1073741824) (w : World) (hU : Lib.Utf8Tabs 0 1 w) (h2 : 2 ≤ w.heap.size) :
    Calls Tryz.prog 33 #[.string T] w fun e w' => ∃ R : ByteArray, e = .returned (.string R) ∧ R.data.toList = decF l ∧ KeepA w w' := by
  have hlen : Hid ((decF l).length ≤ 4 * 1073741824) := Lib.hid (by
    have h3 := decF_len l
    have h4 := encs_ge l
    rw [← h.size] at h4
    omega)
  go_enter Tryz.func33, Tryz.ntmps33
  go_wp2_with fail
  go_loopg [3] T.size (fun k a wr => DB T l w k a wr)
  case atStart => exact ⟨rfl, 0, [], l, rfl, rfl, by have := BY.start h.sfx; rw [h.ps] at this; exact this, by simp⟩
  case round =>
    obtain ⟨hw, i, q, t, rfl, hk, hB, hD⟩ := hrel
    subst wr
    have HK := Lib.hid hk
    have HD := Lib.hid hD
    have HB := Lib.hid hB
    clear hk hD
    have hle := hB.1
    by_cases hlt : i < T.size
    · obtain ⟨x, hx⟩ : ∃ x : Nat, ∀ hi : i < T.size, ((T[i]'hi).toNat) = x := ⟨(T[i]'hlt).toNat, fun _ => rfl⟩
      have hx3 : x < 256 := by rw [← hx hlt]; exact UInt8.toNat_lt _
      cases q with
      | cons b q =>
        have hx2 := hB.more.2 hlt
        rw [hx] at hx2
        have k1 : ((x : Int) == 92) = false := by simp only [beq_eq_false_iff_ne]; omega
        have k2 : ((x : Int) == 0) = false := by simp only [beq_eq_false_iff_ne]; omega
        clear hx2 hB
        go_wp2_with fail
        go_roundg (T.size - (i + 1))
        case measure => have := HK.out; omega
        case rel => exact ⟨rfl, i + 1, q, t, by simp, rfl, HB.out.more.1, by
          rw [← HD.out, List.cons_append]
          exact DB.step hlt (BY.byte HB.out hlt) _⟩
      | nil =>
        cases t with
        | nil => exact absurd hlt (by rw [BY.lt hB]; simp)
        | cons c t =>
          have hxc := hB.next.2 hlt
          rw [hx] at hxc
          have hr := hB.2.2.1.head
          have HX := Lib.hid hx
          by_cases hc : c = 92
          · have hx92 : x = 92 := by subst hc; rw [show lead 92 = 92 from rfl] at hxc; omega
            have k1 : ((x : Int) == 92) = true := by rw [hx92]; rfl
            subst hc
            clear hB hxc hr hx92
            have hni : ((i : Int) == T.size) = false := by simp only [beq_eq_false_iff_ne]; omega
            have hi0 : (0 : Int) ≤ i := by omega
            have hiT : (i : Int) ≤ T.size := by omega
            go_wp2_with fail
            have hb0 : Lib.IsBuilderF 126 5 w.heap.size w.heap.size (Lib.byteCells []) (w.alloc (Obj.cells #[Value.pointer none, Value.slice none 0 0] 126)) := Lib.IsBuilderF.of (Lib.fresh_isBuilder 126 5 w)
            have hxs : (T.extract 0 i).size ≤ 1073741824 := by rw [ByteArray.size_extract]; omega
            refine (Tryz.Builder_WriteString_k w.heap.size w.heap.size (Lib.byteCells []) (T.extract 0 i) _ hb0 (by simp only [Lib.byteCells, List.map_nil, List.length_nil]; omega) (by simp)).mono ?_
            rintro e w2 ⟨rfl, hb2, hbel, _⟩
            have hBK : BK w w2 w.heap.size (T.extract 0 i).data.toList := by
              rw [Lib.strCells_eq] at hb2
              have hs2 := hbel.size
              exact ⟨.inr hb2, ((Keep.refl _ _).alloc _).trans (Keep.of_belowB hbel), by simp at hs2; omega⟩
            have hS := HB.out.sfx
            have hWt : Wt (T.extract i T.size) (92 :: t) := by
              refine ⟨?_, hS.1.all⟩
              have hl : T.data.toList.length = T.size := by simp
              rw [Lib.extract_data, List.take_of_length_le (by rw [List.length_drop]; omega), hS.2]
              exact hS.1.bytes
            have hout : (T.extract 0 i).data.toList ++ decF (92 :: t) = decF l := by
              rw [← HD.out, Lib.extract_data, List.drop_zero, Nat.sub_zero]; rfl
            have HWT := Lib.hid hWt
            have HOU := Lib.hid hout
            have HXS : Hid ((T.extract i T.size).size ≤ 1073741824) := Lib.hid (Nat.le_trans (Wt.cut_le i) hs)
            obtain ⟨b, hb⟩ : ∃ b, w.heap.size = b := ⟨_, rfl⟩
            rw [hb] at hBK h2 ⊢
            obtain ⟨out0, hout0⟩ : ∃ o, (T.extract 0 i).data.toList = o := ⟨_, rfl⟩
            rw [hout0] at hBK HOU
            have HB2 := Lib.hid hb
            clear hb hb0 hb2 hbel hWt hout hS hout0 hxs
            go_upto_block 2 with (fail)
            clear k1 hni hi0 hiT hx hx3 hlt hle
            refine wp_mono (dec_loop (T := decF l) (w0 := w) (b := b) (k := (92 :: t).length) ⟨_, _, out0, ⟨rfl, rfl, rfl, rfl⟩, HWT.out, rfl, HXS.out, HOU.out, hBK⟩ hlen.out hU h2) ?_
            rintro e a' w' ⟨rfl, X, hf, hBK'⟩
            obtain ⟨f, rfl⟩ := hf.open
            have hol := hlen.out
            clear hBK
            go_wp2_with fail
            refine (Tryz.Builder_String_any_k b b (decF l) _ hBK'.bf hBK'.hb).mono ?_
            rintro e w9 ⟨rfl, _, hbel, _⟩
            go_wp2_with fail
            go_ret
            exact ⟨_, rfl, by simp, (hBK'.kp.trans (Keep.of_belowB hbel)).mono (fun k hk e => by have := HB2.out; omega)⟩
          · have hlc : lead c ≠ 92 ∧ lead c ≠ 0 := by
              by_cases h128 : c < 128
              · rw [lead_low h128]; exact ⟨hc, by have := hr.1; omega⟩
              · have := lead_high hr (by omega); omega
            have k1 : ((x : Int) == 92) = false := by simp only [beq_eq_false_iff_ne]; omega
            have k2 : ((x : Int) == 0) = false := by simp only [beq_eq_false_iff_ne]; omega
            have HC := Lib.hid hc
            clear hB hxc hr hc hlc
            go_wp2_with fail
            go_roundg (T.size - (i + 1))
            case measure => have := HK.out; omega
            case rel => exact ⟨rfl, i + 1, (enc c).tail, t, by simp, rfl, HB.out.next.1, DB.rune HB.out hlt HC.out HD.out⟩
    · have hend : q = [] ∧ t = [] := by
        have := (not_congr (BY.lt hB)).1 hlt
        by_cases e : q = []
        · exact ⟨e, by by_cases e2 : t = []; exact e2; exact absurd (.inr e2) this⟩
        · exact absurd (.inl e) this
      obtain ⟨rfl, rfl⟩ := hend
      have hi : i = T.size := by omega
      subst hi
      have HF : Hid (T.data.toList = decF l) := Lib.hid (by
        have e := HD.out
        rw [decF_nil, List.append_nil, List.append_nil, List.take_of_length_le (by simp)] at e
        exact e)
      clear hB
      go_wp2_with fail
      go_ret
      exact ⟨T, rfl, HF.out, Keep.refl _ _⟩
end Go.Proofs.YtedckphklebndaaGreatDoor
/- The package's DecodedText, walked. Conditions: the token's letters are those of a token (Ltr); a text of at most 2^30 bytes; the tables of unicode/utf8 lie in blocks 0 and 1. -/
namespace Go.Proofs.YtedckphklebndaaGreatDoor
open Go Go.RowKit
theorem encs_one {c : Int} (h0 : 0 ≤ c) (h : c < 128) (t : List Int) : encs (c :: t) = c.toNat.toUInt8 :: encs t := by simp only [encs, enc_one h0 h, List.cons_append, List.nil_append]
/-- Without its first letter. -/
theorem Wt.rest {raw : ByteArray} {c : Int} {v : List Int} (h : Wt raw (c :: v)) (h0 : 0 ≤ c) (h1 : c < 128) : Wt (raw.extract 1 raw.size) v ∧ 1 ≤ raw.size := by
  have hs := h.size
  rw [encs_one h0 h1] at hs
  refine ⟨⟨?_, h.all.tail⟩, by simp at hs; omega⟩
  have hl : raw.data.toList.length = raw.size := by simp
  rw [Lib.extract_data, List.take_of_length_le (by rw [List.length_drop]; omega), h.by_, encs_one h0 h1]; rfl
/-- Without its last letter. -/
theorem Wt.init {raw : ByteArray} {c : Int} {v : List Int} (h : Wt raw (v ++ [c])) (h0 : 0 ≤ c) (h1 : c < 128) : Wt (raw.extract 0 (raw.size - 1)) v ∧ 1 ≤ raw.size := by
  have hs := h.size
  rw [encs_append, encs_one h0 h1, List.length_append] at hs
  simp only [encs, List.length_cons, List.length_nil] at hs
  refine ⟨⟨?_, h.all.left⟩, by omega⟩
  rw [Lib.extract_data, List.drop_zero, Nat.sub_zero, h.by_, encs_append, List.take_left' (by omega)]
/-- Without its quotes. -/
theorem Wt.inner {raw : ByteArray} {c : Int} {v : List Int} (h : Wt raw (c :: (v ++ [c]))) (h0 : 0 ≤ c) (h1 : c < 128) : Wt (raw.extract 1 (raw.size - 1)) v ∧ 2 ≤ raw.size := by
  have hs := h.size
  rw [encs_one h0 h1, encs_append, encs_one h0 h1] at hs
  simp only [encs, List.length_cons, List.length_nil, List.length_append] at hs
  refine ⟨⟨?_, h.all.tail.left⟩, by omega⟩
  rw [Lib.extract_data, h.by_, encs_one h0 h1, encs_append, List.drop_succ_cons, List.drop_zero, List.take_left' (by omega)]
def DTP (tok : Tok) (w : World) (e : Ending) (w' : World) : Prop := ∃ R : ByteArray, e = .returned (.string R) ∧ (hasT tok.kind = true → R.data.toList = tok.text) ∧ KeepA w w'
set_option maxRecDepth 100000 in
set_option maxHeartbeats 8000000 in
theorem DecodedText_calls {s raw : ByteArray} {u : List Int} {tok : Tok} (hW : Wt raw u) (hL : Ltr tok u) {a p : Nat} (hr : s.extract a p = raw) (hap : a ≤ p) (hps : p ≤ s.size) (hs : s.size ≤ 1073741824) (un fl : Int) (w : World) (hU : Lib.Utf8Tabs 0 1 w) (h2 : 2 ≤ w.heap.size) :
    Calls Tryz.prog 25 #[.agg #[.int .i32 (a : Nat), .int .i32 ((p : Int) - a), .int .u16 un, .int .u8 tok.kind, .int .u8 fl], .string s] w (DTP tok w) := by
  have hrs : raw.size ≤ 1073741824 := by rw [← hr, ByteArray.size_extract]; omega
  have HR := Lib.hid hr
  have ha0 : (0 : Int) ≤ a := by omega
  have ha1 : (a : Int) ≤ (p : Nat) := by omega
  have ha2 : (p : Int) ≤ s.size := by omega
  clear hr
  obtain ⟨K, hK⟩ : ∃ K, tok.kind = K := ⟨_, rfl⟩
  rw [hK]
  have HK := Lib.hid hK
  clear hK
  go_enter Tryz.func25, Tryz.ntmps25
  go_upto_region 1 with (fail)
  have hKb : KeepA w (w.alloc (.cells #[.int .i32 (a : Nat), .int .i32 ((p : Int) - a), .int .u16 un, .int .u8 K, .int .u8 fl] 60)) := (Keep.refl _ _).alloc _
  have hB : (w.alloc (.cells #[.int .i32 (a : Nat), .int .i32 ((p : Int) - a), .int .u16 un, .int .u8 K, .int .u8 fl] 60)).heap[w.heap.size]? = some (.cells #[.int .i32 (a : Nat), .int .i32 ((p : Int) - a), .int .u16 un, .int .u8 K, .int .u8 fl] 60 (0, 0)) := heap_alloc_new w _
  obtain ⟨wb, hwb⟩ : ∃ x, w.alloc (.cells #[.int .i32 (a : Nat), .int .i32 ((p : Int) - a), .int .u16 un, .int .u8 K, .int .u8 fl] 60) = x := ⟨_, rfl⟩
  obtain ⟨X, hX⟩ : ∃ x, w.heap.size = x := ⟨_, rfl⟩
  rw [hwb] at hKb hB ⊢
  rw [hX] at hB ⊢
  have HX := Lib.hid hX
  clear hwb hX
  go_cut [5] (fun v wc => v = .string raw ∧ KeepA wb wc)
  case first =>
    have c0 : wb.cell? ⟨X, 0, none⟩ = some (.int .i32 (a : Nat)) := (blk_cell hB 0).trans rfl
    have c1 : wb.cell? ⟨X, 1, none⟩ = some (.int .i32 ((p : Int) - a)) := (blk_cell hB 1).trans rfl
    have hBd : wb.drew.heap[X]? = _ := hB
    go_region_held3 (fun w' => w'.cell? ⟨X, 0, none⟩ = some (.int .i32 (a : Nat)) ∧ w'.cell? ⟨X, 1, none⟩ = some (.int .i32 ((p : Int) - a))) (go_keep)
      (first
        | (go_at_call 24; refine (End_at a p (by omega) _).mono ?_; rintro e w1 ⟨rfl, hK1⟩; have hB1 := hK1.blk hBd (fun x => x); have d0 : w1.cell? ⟨X, 0, none⟩ = some (.int .i32 (a : Nat)) := (blk_cell hB1 0).trans rfl; have d1 : w1.cell? ⟨X, 1, none⟩ = some (.int .i32 ((p : Int) - a)) := (blk_cell hB1 1).trans rfl; skip))
    all_goals
      go_wp2_with fail
      go_meet
      case rel => exact ⟨by rw [← HR.out], ((Keep.refl (fun _ => False) wb).drew).trans hK1⟩
  case rest =>
    obtain ⟨rfl, hKc⟩ := hcut
    have hBc := hKc.blk hB (fun x => x)
    have c3 : wc.cell? ⟨X, 3, none⟩ = some (.int .u8 K) := (blk_cell hBc 3).trans rfl
    have hK2 : KeepA w wc := hKb.trans hKc
    have hU2 := tabs_keep hU hK2 (fun x => x) (fun x => x)
    have h22 : 2 ≤ wc.heap.size := Nat.le_trans h2 hK2.size
    clear hB hBc hKb hKc
    by_cases k29 : K = 29 ∨ K = 26
    · have kk : (K == 29) = true ∨ ((K == 29) = false ∧ (K == 26) = true) := by
        rcases k29 with e | e
        · exact .inl (by rw [e]; rfl)
        · exact .inr ⟨by rw [e]; rfl, by rw [e]; rfl⟩
      have HT : Hid (hasT tok.kind = true → decF u = tok.text) := Lib.hid (fun e => by
        rcases k29 with q | q
        · exact hL.k29 (by rw [HK.out, q])
        · rw [HK.out, q] at e; exact absurd e (by decide))
      clear k29
      rcases kk with k1 | ⟨k1, k2⟩
      all_goals
        go_wp2_with fail
        refine (decode_calls hW hrs _ hU2 h22).mono ?_
        rintro e w9 ⟨R, rfl, hR, hK9⟩
        go_wp2_with fail
        go_ret
        exact ⟨R, rfl, fun e => by rw [hR, HT.out e], hK2.trans hK9⟩
    have k1 : (K == 29) = false := by simp only [beq_eq_false_iff_ne]; exact fun e => k29 (.inl e)
    have k2 : (K == 26) = false := by simp only [beq_eq_false_iff_ne]; exact fun e => k29 (.inr e)
    by_cases k01 : K = 1 ∨ K = 28
    · have kk : (K == 1) = true ∨ ((K == 1) = false ∧ (K == 28) = true) := by
        rcases k01 with e | e
        · exact .inl (by rw [e]; rfl)
        · exact .inr ⟨by rw [e]; rfl, by rw [e]; rfl⟩
      obtain ⟨c, v, hu, hc0, hc1, hd⟩ := hL.k1 (by rw [HK.out]; exact k01)
      rw [hu] at hW
      obtain ⟨hWv, hz⟩ := hW.rest (by omega) hc1
      have hz1 : (1 : Int) ≤ raw.size := by omega
      have HD := Lib.hid hd
      have HWV := Lib.hid hWv
      have HZ : Hid ((raw.extract 1 raw.size).size ≤ 1073741824) := Lib.hid (Nat.le_trans (Wt.cut_le 1) hrs)
      clear k01 hd hWv k29 hu hL hW
      rcases kk with k3 | ⟨k3, k4⟩
      all_goals
        go_wp2_with fail
        refine (decode_calls HWV.out HZ.out _ hU2 h22).mono ?_
        rintro e w9 ⟨R, rfl, hR, hK9⟩
        go_wp2_with fail
        go_ret
        exact ⟨R, rfl, fun e => by rw [hR, HD.out], hK2.trans hK9⟩
    have k3 : (K == 1) = false := by simp only [beq_eq_false_iff_ne]; exact fun e => k01 (.inl e)
    have k4 : (K == 28) = false := by simp only [beq_eq_false_iff_ne]; exact fun e => k01 (.inr e)
    by_cases k27 : K = 27
    · have k5 : (K == 27) = true := by rw [k27]; rfl
      obtain ⟨v, hu, hd⟩ := hL.k27 (by rw [HK.out]; exact k27)
      rw [hu] at hW
      obtain ⟨hWv, hz⟩ := hW.init (by omega) (by omega)
      have hz1 : (0 : Int) ≤ (raw.size : Int) - 1 := by omega
      have hz2 : ((raw.size : Int) - 1).toNat = raw.size - 1 := by omega
      have hz3 : (raw.size : Int) - 1 ≤ raw.size := by omega
      have HD := Lib.hid hd
      have HWV := Lib.hid hWv
      have HZ : Hid ((raw.extract 0 (raw.size - 1)).size ≤ 1073741824) := Lib.hid (by rw [ByteArray.size_extract]; omega)
      clear hd hWv k29 k01 hu hL hW
      go_wp2_with fail
      refine (decode_calls HWV.out HZ.out _ hU2 h22).mono ?_
      rintro e w9 ⟨R, rfl, hR, hK9⟩
      go_wp2_with fail
      go_ret
      exact ⟨R, rfl, fun e => by rw [hR, HD.out], hK2.trans hK9⟩
    have k5 : (K == 27) = false := by simp only [beq_eq_false_iff_ne]; exact k27
    by_cases k36 : K = 36
    · have k6 : (K == 36) = true := by rw [k36]; rfl
      obtain ⟨q, v, hu, hq, hd⟩ := hL.k36 (by rw [HK.out]; exact k36)
      rw [hu] at hW
      obtain ⟨hWv, hz⟩ := hW.inner (by omega) (by omega)
      have hz1 : (1 : Int) ≤ (raw.size : Int) - 1 := by omega
      have hz2 : ((raw.size : Int) - 1).toNat = raw.size - 1 := by omega
      have hz3 : (raw.size : Int) - 1 ≤ raw.size := by omega
      have HD := Lib.hid hd
      have HWV := Lib.hid hWv
      have HZ : Hid ((raw.extract 1 (raw.size - 1)).size ≤ 1073741824) := Lib.hid (by rw [ByteArray.size_extract]; omega)
      clear hd hWv k29 k01 hu hL hW hq
      go_wp2_with fail
      refine (decode_calls HWV.out HZ.out _ hU2 h22).mono ?_
      rintro e w9 ⟨R, rfl, hR, hK9⟩
      go_wp2_with fail
      go_ret
      exact ⟨R, rfl, fun e => by rw [hR, HD.out], hK2.trans hK9⟩
    have k6 : (K == 36) = false := by simp only [beq_eq_false_iff_ne]; exact k36
    by_cases k37 : K = 37
    · subst k37
      obtain ⟨nm, sp, v, hu, hn, hsp, hh, hd⟩ := hL.k37 HK.out
      have hA := Adr.of (raw := raw) (by rw [← hu]; exact hW.by_) (by
        have := hW.all
        rw [hu] at this
        exact this.right.tail.right.left) hn hsp hh
      have hrn : RnAll (strE v) := by
        have := hW.all
        rw [hu] at this
        have h3 := this.right.tail.right.left
        obtain ⟨t, ht, _⟩ := strE_cut v
        rw [ht] at h3
        exact h3.left
      have HRN := Lib.hid hrn
      obtain ⟨i0, hi0⟩ : ∃ i, 4 + (encs sp).length = i := ⟨_, rfl⟩
      rw [hi0] at hA
      obtain ⟨j0, hj0⟩ : ∃ j, i0 + (encs (strE v)).length = j := ⟨_, rfl⟩
      rw [hj0] at hA
      have HA := Lib.hid hA
      have HD := Lib.hid hd
      obtain ⟨l1, l2, l3⟩ := hA.le
      have hcl := hA.close
      clear hA hd hrn hi0 hj0 hh hsp hn hu hL hW k29 k01
      have hz1 : (0 : Int) ≤ (raw.size : Int) - 1 := by omega
      have hz2 : ((raw.size : Int) - 1).toNat = raw.size - 1 := by omega
      have hz3 : (raw.size : Int) - 1 < raw.size := by omega
      have hz4 : (j0 : Int) ≤ (raw.size : Int) - 1 := by omega
      go_upto_block 1 with (fail)
      clear hcl
      go_cut [6] (fun v wx => v = .int .i64 (i0 : Nat) ∧ wx = wc)
      case first =>
        go_wp2_with fail
        go_loopg [6] (i0 - 4) (fun k v wr => ∃ i : Nat, v = .int .i64 (i : Nat) ∧ k = i0 - i ∧ 4 ≤ i ∧ i ≤ i0 ∧ wr = wc)
        case atStart => exact ⟨4, rfl, rfl, Nat.le_refl _, l1, rfl⟩
        case round =>
          obtain ⟨i, rfl, hk, hi4, hii, hw⟩ := hrel
          subst wr
          have HK2 := Lib.hid hk
          clear hk
          by_cases hlt : i < i0
          · have hz5 : (i : Int) < (raw.size : Int) - 1 := by omega
            have hz6 : (0 : Int) ≤ i := by omega
            have hz7 : i < raw.size := by omega
            obtain ⟨x, hx⟩ : ∃ x : Nat, ∀ h : i < raw.size, ((raw[i]'h).toNat) = x := ⟨(raw[i]'hz7).toNat, fun _ => rfl⟩
            have hx3 : x < 256 := by rw [← hx hz7]; exact UInt8.toNat_lt _
            have hws : isSp (x : Int) = true := by rw [← hx hz7]; exact HA.out.left i hi4 hlt hz7
            go_wp2_with (go_at_call 34; refine (isWhitespace_calls _ _).mono ?_; rintro e w' ⟨rfl, rfl⟩)
            go_roundg (i0 - (i + 1))
            case measure => have := HK2.out; omega
            case rel => exact ⟨i + 1, rfl, rfl, by omega, by omega, rfl⟩
          · have hie : i = i0 := by omega
            subst hie
            by_cases hij : i < j0
            · have hz5 : (i : Int) < (raw.size : Int) - 1 := by omega
              have hz6 : (0 : Int) ≤ i := by omega
              have hz7 : i < raw.size := by omega
              obtain ⟨x, hx⟩ : ∃ x : Nat, ∀ h : i < raw.size, ((raw[i]'h).toNat) = x := ⟨(raw[i]'hz7).toNat, fun _ => rfl⟩
              have hx3 : x < 256 := by rw [← hx hz7]; exact UInt8.toNat_lt _
              have hws : isSp (x : Int) = false := by rw [← hx hz7]; exact HA.out.first hij hz7
              go_wp2_with (go_at_call 34; refine (isWhitespace_calls _ _).mono ?_; rintro e w' ⟨rfl, rfl⟩)
              go_meet
              case rel => exact ⟨rfl, rfl⟩
            · have hz5 : ¬ (i : Int) < (raw.size : Int) - 1 := by have := HA.out.none (by omega); omega
              go_wp2_with fail
              go_meet
              case rel => exact ⟨rfl, rfl⟩
      case rest =>
        obtain ⟨rfl, hw⟩ := hcut
        subst hw
        go_upto_block 3 with (fail)
        go_cut [7] (fun v wx => v = .int .i64 (j0 : Nat) ∧ wx = wc)
        case first =>
          go_wp2_with fail
          go_loopg [7] (raw.size - 1 - j0) (fun k v wr => ∃ i : Nat, v = .int .i64 (i : Nat) ∧ k = i - j0 ∧ j0 ≤ i ∧ i + 1 ≤ raw.size ∧ wr = wc)
          case atStart => exact ⟨raw.size - 1, by congr 1; omega, rfl, by omega, by omega, rfl⟩
          case round =>
            obtain ⟨i, rfl, hk, hi4, hii, hw⟩ := hrel
            subst wr
            have HK2 := Lib.hid hk
            clear hk
            by_cases hlt : j0 < i
            · have hz5 : (i0 : Int) < i := by omega
              have hz6 : (0 : Int) ≤ (i : Int) - 1 := by omega
              have hz6' : ((i : Int) - 1).toNat = i - 1 := by omega
              have hz7 : i - 1 < raw.size := by omega
              have hz8 : (i : Int) - 1 < raw.size := by omega
              obtain ⟨x, hx⟩ : ∃ x : Nat, ∀ h : i - 1 < raw.size, ((raw[i - 1]'h).toNat) = x := ⟨(raw[i - 1]'hz7).toNat, fun _ => rfl⟩
              have hx3 : x < 256 := by rw [← hx hz7]; exact UInt8.toNat_lt _
              have hws : isSp (x : Int) = true := by rw [← hx hz7]; exact HA.out.right (i - 1) (by omega) (by omega) hz7
              go_wp2_with (go_at_call 34; refine (isWhitespace_calls _ _).mono ?_; rintro e w' ⟨rfl, rfl⟩)
              go_roundg (i - 1 - j0)
              case measure => have := HK2.out; omega
              case rel => exact ⟨i - 1, by congr 1; omega, rfl, by omega, by omega, rfl⟩
            · have hie : i = j0 := by omega
              subst hie
              by_cases hij : i0 < i
              · have hz5 : (i0 : Int) < i := by omega
                have hz6 : (0 : Int) ≤ (i : Int) - 1 := by omega
                have hz6' : ((i : Int) - 1).toNat = i - 1 := by omega
                have hz7 : i - 1 < raw.size := by omega
                have hz8 : (i : Int) - 1 < raw.size := by omega
                obtain ⟨x, hx⟩ : ∃ x : Nat, ∀ h : i - 1 < raw.size, ((raw[i - 1]'h).toNat) = x := ⟨(raw[i - 1]'hz7).toNat, fun _ => rfl⟩
                have hx3 : x < 256 := by rw [← hx hz7]; exact UInt8.toNat_lt _
                have hws : isSp (x : Int) = false := by rw [← hx hz7]; exact HA.out.last hij hz7
                go_wp2_with (go_at_call 34; refine (isWhitespace_calls _ _).mono ?_; rintro e w' ⟨rfl, rfl⟩)
                go_meet
                case rel => exact ⟨rfl, rfl⟩
              · have hz5 : ¬ (i0 : Int) < i := by omega
                go_wp2_with fail
                go_meet
                case rel => exact ⟨rfl, rfl⟩
        case rest =>
          obtain ⟨rfl, hw⟩ := hcut
          subst hw
          have hz5 : (0 : Int) ≤ i0 := by omega
          have hz6 : (i0 : Int) ≤ j0 := by omega
          have hz7 : (j0 : Int) ≤ raw.size := by omega
          have HZ : Hid ((raw.extract i0 j0).size ≤ 1073741824) := Lib.hid (by rw [ByteArray.size_extract]; omega)
          have HWV : Hid (Wt (raw.extract i0 j0) (strE v)) := Lib.hid ⟨HA.out.ext, HRN.out⟩
          go_wp2_with fail
          refine (decode_calls HWV.out HZ.out _ hU2 h22).mono ?_
          rintro e w9 ⟨R, rfl, hR, hK9⟩
          go_wp2_with fail
          go_ret
          exact ⟨R, rfl, fun e => by rw [hR, HD.out], hK2.trans hK9⟩
    have k7 : (K == 37) = false := by simp only [beq_eq_false_iff_ne]; exact k37
    have HN : Hid (¬ hasT tok.kind = true) := Lib.hid (by
      rw [HK.out]
      unfold hasT
      simp only [Bool.or_eq_true, beq_iff_eq]
      omega)
    clear k29 k01 k27 k36 k37
    go_wp2_with fail
    go_ret
    exact ⟨raw, rfl, fun e => absurd e HN.out, hK2⟩
end Go.Proofs.YtedckphklebndaaGreatDoor
/- The region of the laws' Tokens that makes a token. Conditions: the token's cells lie in block X; its numbers are in range. -/
namespace Go.Proofs.YtedckphklebndaaGreatDoor
open Go Go.RowKit
theorem wpAnyH_cast {P : Program} {md : Region.Mode} {ops : Array Oper} {Q : Exit → Act → World → Prop} {S : World → Prop} {w : World} {f f' : Nat} {x x' : Array Bool} {a a' : Act} (h1 : f = f') (h2 : x = x') (h3 : a = a') (h : wpAnyH P md ops Q S f' x' a' w) : wpAnyH P md ops Q S f x a w := by
  subst h1 h2 h3; exact h
noncomputable def t12R5 : Code := (((Tryz.f12.body.map regions).getD [])[5]?).getD .skip
/-- What it leaves: the token in a new block. -/
def T12Q (wb : World) (X : Nat) (f : Nat → Value) (kd un : Int) (pa pe : Nat) (id : Bool) (e : Exit) (a : Act) (w : World) : Prop :=
  e = .normal ∧ ∃ (Y : Nat) (h : Nat → Value), a = ⟨#[f 0, f 1, f 2, f 3, f 4, .pointer (some ⟨X, 0, none⟩), .pointer (some ⟨Y, 0, none⟩), f 7, f 8, f 9, f 10, f 11, f 12, f 13, f 14, h 15, h 16, h 17, h 18, h 19, h 20, h 21, h 22, h 23, h 24, h 25, h 26, h 27, h 28, h 29, h 30, h 31, h 32, h 33, h 34, f 35, f 36, f 37, f 38, f 39, f 40, f 41, f 42, f 43, f 44], []⟩ ∧ wb.heap.size ≤ Y ∧ w.heap[Y]? = some (.cells #[.int .i64 kd, .int .i64 pa, .int .i64 pe, .int .i64 un, .bool id, .string ⟨#[]⟩] 28 (0, 0)) ∧ KeepA wb w
set_option maxRecDepth 100000 in
set_option maxHeartbeats 8000000 in
theorem t12_region (fl an : Int) (b : Bool) (hand : bits BinOp.and .u8 fl 1 = an) (hne : (an != 0) = b) (wb : World) (X : Nat) (f : Nat → Value) (kd un : Int) (pa pe : Nat) (hB : wb.heap[X]? = some (.cells #[.int .i32 pa, .int .i32 ((pe : Int) - pa), .int .u16 un, .int .u8 kd, .int .u8 fl] 60 (0, 0))) (hk : 0 ≤ kd ∧ kd < 256) (hu : 0 ≤ un ∧ un < 65536) (hpa : pa ≤ 1073741824) (hpe : pe ≤ 1073741824) :
    Code.wp Tryz.prog t12R5 (T12Q wb X f kd un pa pe b) ⟨#[f 0, f 1, f 2, f 3, f 4, .pointer (some ⟨X, 0, none⟩), f 6, f 7, f 8, f 9, f 10, f 11, f 12, f 13, f 14, f 15, f 16, f 17, f 18, f 19, f 20, f 21, f 22, f 23, f 24, f 25, f 26, f 27, f 28, f 29, f 30, f 31, f 32, f 33, f 34, f 35, f 36, f 37, f 38, f 39, f 40, f 41, f 42, f 43, f 44], []⟩ wb := by
  conv => arg 2; whnf
  obtain ⟨hk0, hk1⟩ := hk
  obtain ⟨hu0, hu1⟩ := hu
  have v1 : IntKind.i64.wrap kd = kd := by rw [IntKind.wrap_i64]; omega
  have v2 : IntKind.i64.wrap un = un := by rw [IntKind.wrap_i64]; omega
  have v3 : IntKind.i64.wrap (pa : Int) = pa := by rw [IntKind.wrap_i64]; omega
  have v4 : IntKind.i64.wrap (pe : Int) = pe := by rw [IntKind.wrap_i64]; omega
  have z0 : ∀ wz : World, wz.heap[X]? = some (.cells #[.int .i32 pa, .int .i32 ((pe : Int) - pa), .int .u16 un, .int .u8 kd, .int .u8 fl] 60 (0, 0)) → wz.cell? ⟨X, 0, none⟩ = some (.int .i32 pa) := fun wz e => (blk_cell e 0).trans rfl
  have z1 : ∀ wz : World, wz.heap[X]? = some (.cells #[.int .i32 pa, .int .i32 ((pe : Int) - pa), .int .u16 un, .int .u8 kd, .int .u8 fl] 60 (0, 0)) → wz.cell? ⟨X, 1, none⟩ = some (.int .i32 ((pe : Int) - pa)) := fun wz e => (blk_cell e 1).trans rfl
  have z2 : ∀ wz : World, wz.heap[X]? = some (.cells #[.int .i32 pa, .int .i32 ((pe : Int) - pa), .int .u16 un, .int .u8 kd, .int .u8 fl] 60 (0, 0)) → wz.cell? ⟨X, 2, none⟩ = some (.int .u16 un) := fun wz e => (blk_cell e 2).trans rfl
  have z3 : ∀ wz : World, wz.heap[X]? = some (.cells #[.int .i32 pa, .int .i32 ((pe : Int) - pa), .int .u16 un, .int .u8 kd, .int .u8 fl] 60 (0, 0)) → wz.cell? ⟨X, 3, none⟩ = some (.int .u8 kd) := fun wz e => (blk_cell e 3).trans rfl
  have z4 : ∀ wz : World, wz.heap[X]? = some (.cells #[.int .i32 pa, .int .i32 ((pe : Int) - pa), .int .u16 un, .int .u8 kd, .int .u8 fl] 60 (0, 0)) → wz.cell? ⟨X, 4, none⟩ = some (.int .u8 fl) := fun wz e => (blk_cell e 4).trans rfl
  have hS0 : wb.drew.heap[X]? = some (.cells #[.int .i32 pa, .int .i32 ((pe : Int) - pa), .int .u16 un, .int .u8 kd, .int .u8 fl] 60 (0, 0)) := hB
  have hSK : ∀ wz, KeepA wb wz → wz.heap[X]? = some (.cells #[.int .i32 pa, .int .i32 ((pe : Int) - pa), .int .u16 un, .int .u8 kd, .int .u8 fl] 60 (0, 0)) := fun wz k => k.blk hB (fun x => x)
  have hQx : ∀ (d : Option Nat) (v : Value) c a w, T12Q wb X f kd un pa pe b (.panic c) (Act.put a d v) w → T12Q wb X f kd un pa pe b (.panic c) a w := fun d v c a w h => by obtain ⟨h, _⟩ := h; cases h
  refine wp_region_held (S := fun w' => w'.heap[X]? = some (.cells #[.int .i32 pa, .int .i32 ((pe : Int) - pa), .int .u16 un, .int .u8 kd, .int .u8 fl] 60 (0, 0))) (by kernel_rfl) ?_
  refine wpAnyH_take (i := 0) (oi := _) (v := .pointer (some ⟨X, 3, none⟩)) rfl (by kernel_rfl) (by kernel_rfl) (by kernel_rfl) (hQx _ _) (.inl ⟨by rfl, fun w' s1 => ?_⟩) hS0 ?_
  · have y0 := z0 _ s1
    have y1 := z1 _ s1
    have y2 := z2 _ s1
    have y3 := z3 _ s1
    have y4 := z4 _ s1
    go_simp
  refine wpAnyH_take (i := 1) (oi := _) (v := .int .u8 kd) rfl (by kernel_rfl) (by kernel_rfl) (by kernel_rfl) (hQx _ _) (.inl ⟨by rfl, fun w' s1 => ?_⟩) hS0 ?_
  · have y0 := z0 _ s1
    have y1 := z1 _ s1
    have y2 := z2 _ s1
    have y3 := z3 _ s1
    have y4 := z4 _ s1
    go_simp
  refine wpAnyH_take (i := 2) (oi := _) (v := .int .i64 kd) rfl (by kernel_rfl) (by kernel_rfl) (by kernel_rfl) (hQx _ _) (.inl ⟨by rfl, fun w' s1 => ?_⟩) hS0 ?_
  · have y0 := z0 _ s1
    have y1 := z1 _ s1
    have y2 := z2 _ s1
    have y3 := z3 _ s1
    have y4 := z4 _ s1
    go_simp
  refine wpAnyH_take (i := 3) (oi := _) (v := .pointer (some ⟨X, 0, none⟩)) rfl (by kernel_rfl) (by kernel_rfl) (by kernel_rfl) (hQx _ _) (.inl ⟨by rfl, fun w' s1 => ?_⟩) hS0 ?_
  · have y0 := z0 _ s1
    have y1 := z1 _ s1
    have y2 := z2 _ s1
    have y3 := z3 _ s1
    have y4 := z4 _ s1
    go_simp
  refine wpAnyH_take (i := 4) (oi := _) (v := .pointer (some ⟨X, 0, none⟩)) rfl (by kernel_rfl) (by kernel_rfl) (by kernel_rfl) (hQx _ _) (.inl ⟨by rfl, fun w' s1 => ?_⟩) hS0 ?_
  · have y0 := z0 _ s1
    have y1 := z1 _ s1
    have y2 := z2 _ s1
    have y3 := z3 _ s1
    have y4 := z4 _ s1
    go_simp
  refine wpAnyH_take (i := 5) (oi := _) (v := .pointer (some ⟨X, 0, none⟩)) rfl (by kernel_rfl) (by kernel_rfl) (by kernel_rfl) (hQx _ _) (.inl ⟨by rfl, fun w' s1 => ?_⟩) hS0 ?_
  · have y0 := z0 _ s1
    have y1 := z1 _ s1
    have y2 := z2 _ s1
    have y3 := z3 _ s1
    have y4 := z4 _ s1
    go_simp
  refine wpAnyH_take (i := 6) (oi := _) (v := .int .i32 pa) rfl (by kernel_rfl) (by kernel_rfl) (by kernel_rfl) (hQx _ _) (.inl ⟨by rfl, fun w' s1 => ?_⟩) hS0 ?_
  · have y0 := z0 _ s1
    have y1 := z1 _ s1
    have y2 := z2 _ s1
    have y3 := z3 _ s1
    have y4 := z4 _ s1
    go_simp
  refine wpAnyH_take (i := 7) (oi := _) (v := .int .i64 pa) rfl (by kernel_rfl) (by kernel_rfl) (by kernel_rfl) (hQx _ _) (.inl ⟨by rfl, fun w' s1 => ?_⟩) hS0 ?_
  · have y0 := z0 _ s1
    have y1 := z1 _ s1
    have y2 := z2 _ s1
    have y3 := z3 _ s1
    have y4 := z4 _ s1
    go_simp
  refine wpAnyH_take (i := 8) (oi := _) (v := .pointer (some ⟨X, 0, none⟩)) rfl (by kernel_rfl) (by kernel_rfl) (by kernel_rfl) (hQx _ _) (.inl ⟨by rfl, fun w' s1 => ?_⟩) hS0 ?_
  · have y0 := z0 _ s1
    have y1 := z1 _ s1
    have y2 := z2 _ s1
    have y3 := z3 _ s1
    have y4 := z4 _ s1
    go_simp
  refine wpAnyH_take (i := 9) (oi := _) (v := .agg #[.int .i32 pa, .int .i32 ((pe : Int) - pa)]) rfl (by kernel_rfl) (by kernel_rfl) (by kernel_rfl) (hQx _ _) (.inl ⟨by rfl, fun w' s1 => ?_⟩) hS0 ?_
  · have y0 := z0 _ s1
    have y1 := z1 _ s1
    have y2 := z2 _ s1
    have y3 := z3 _ s1
    have y4 := z4 _ s1
    go_simp
  refine wpAnyH_take (i := 12) (oi := _) (v := .pointer (some ⟨X, 2, none⟩)) rfl (by kernel_rfl) (by kernel_rfl) (by kernel_rfl) (hQx _ _) (.inl ⟨by rfl, fun w' s1 => ?_⟩) hS0 ?_
  · have y0 := z0 _ s1
    have y1 := z1 _ s1
    have y2 := z2 _ s1
    have y3 := z3 _ s1
    have y4 := z4 _ s1
    go_simp
  refine wpAnyH_take (i := 13) (oi := _) (v := .int .u16 un) rfl (by kernel_rfl) (by kernel_rfl) (by kernel_rfl) (hQx _ _) (.inl ⟨by rfl, fun w' s1 => ?_⟩) hS0 ?_
  · have y0 := z0 _ s1
    have y1 := z1 _ s1
    have y2 := z2 _ s1
    have y3 := z3 _ s1
    have y4 := z4 _ s1
    go_simp
  refine wpAnyH_take (i := 14) (oi := _) (v := .int .i64 un) rfl (by kernel_rfl) (by kernel_rfl) (by kernel_rfl) (hQx _ _) (.inl ⟨by rfl, fun w' s1 => ?_⟩) hS0 ?_
  · have y0 := z0 _ s1
    have y1 := z1 _ s1
    have y2 := z2 _ s1
    have y3 := z3 _ s1
    have y4 := z4 _ s1
    go_simp
  refine wpAnyH_take (i := 15) (oi := _) (v := .pointer (some ⟨X, 4, none⟩)) rfl (by kernel_rfl) (by kernel_rfl) (by kernel_rfl) (hQx _ _) (.inl ⟨by rfl, fun w' s1 => ?_⟩) hS0 ?_
  · have y0 := z0 _ s1
    have y1 := z1 _ s1
    have y2 := z2 _ s1
    have y3 := z3 _ s1
    have y4 := z4 _ s1
    go_simp
  refine wpAnyH_take (i := 16) (oi := _) (v := .int .u8 fl) rfl (by kernel_rfl) (by kernel_rfl) (by kernel_rfl) (hQx _ _) (.inl ⟨by rfl, fun w' s1 => ?_⟩) hS0 ?_
  · have y0 := z0 _ s1
    have y1 := z1 _ s1
    have y2 := z2 _ s1
    have y3 := z3 _ s1
    have y4 := z4 _ s1
    go_simp
  refine wpAnyH_take (i := 17) (oi := _) (v := .int .u8 an) rfl (by kernel_rfl) (by kernel_rfl) (by kernel_rfl) (hQx _ _) (.inl ⟨by rfl, fun w' s1 => ?_⟩) hS0 ?_
  · have y0 := z0 _ s1
    have y1 := z1 _ s1
    have y2 := z2 _ s1
    have y3 := z3 _ s1
    have y4 := z4 _ s1
    go_simp
  refine wpAnyH_take (i := 18) (oi := _) (v := .bool b) rfl (by kernel_rfl) (by kernel_rfl) (by kernel_rfl) (hQx _ _) (.inl ⟨by rfl, fun w' s1 => ?_⟩) hS0 ?_
  · have y0 := z0 _ s1
    have y1 := z1 _ s1
    have y2 := z2 _ s1
    have y3 := z3 _ s1
    have y4 := z4 _ s1
    go_simp
  refine wpAnyH_cast (f' := 5) (x' := #[true, true, true, true, true, true, true, true, true, true, false, false, true, true, true, true, true, true, true, false, false, false]) (a' := ⟨#[f 0, f 1, f 2, f 3, f 4, .pointer (some ⟨X, 0, none⟩), f 6, f 7, f 8, f 9, f 10, f 11, f 12, f 13, f 14, .pointer (some ⟨X, 3, none⟩), .int .u8 kd, .int .i64 kd, .pointer (some ⟨X, 0, none⟩), .pointer (some ⟨X, 0, none⟩), .pointer (some ⟨X, 0, none⟩), .int .i32 pa, .int .i64 pa, .pointer (some ⟨X, 0, none⟩), .agg #[.int .i32 pa, .int .i32 ((pe : Int) - pa)], f 25, f 26, .pointer (some ⟨X, 2, none⟩), .int .u16 un, .int .i64 un, .pointer (some ⟨X, 4, none⟩), .int .u8 fl, .int .u8 an, .bool b, f 34, f 35, f 36, f 37, f 38, f 39, f 40, f 41, f 42, f 43, f 44], []⟩) (by kernel_rfl) (by kernel_rfl) (by kernel_rfl) ?_
  refine wpAnyH_all (rs := [10, 20]) (by kernel_rfl) (by decide) ?_
  intro i hi
  rcases List.mem_cons.1 hi with rfl | hi
  · -- the call first
    refine wpOp_step (o := _) rfl (fun K1 hK1 => ?_)
    rw [if_pos (by rfl)]
    go_simp
    go_at_call 24
    refine (End_at pa pe hpe _).mono ?_
    rintro e w2 ⟨rfl, hK2⟩
    have hKb2 : KeepA wb w2 := ((Keep.refl (fun _ => False) wb).drew).trans hK2
    refine hK1 _ _ ⟨hSK _ hKb2, ?_⟩
    refine wpAnyH_cast (f' := 4) (x' := #[true, true, true, true, true, true, true, true, true, true, true, false, true, true, true, true, true, true, true, false, false, false]) (a' := ⟨#[f 0, f 1, f 2, f 3, f 4, .pointer (some ⟨X, 0, none⟩), f 6, f 7, f 8, f 9, f 10, f 11, f 12, f 13, f 14, .pointer (some ⟨X, 3, none⟩), .int .u8 kd, .int .i64 kd, .pointer (some ⟨X, 0, none⟩), .pointer (some ⟨X, 0, none⟩), .pointer (some ⟨X, 0, none⟩), .int .i32 pa, .int .i64 pa, .pointer (some ⟨X, 0, none⟩), .agg #[.int .i32 pa, .int .i32 ((pe : Int) - pa)], .int .i32 pe, f 26, .pointer (some ⟨X, 2, none⟩), .int .u16 un, .int .i64 un, .pointer (some ⟨X, 4, none⟩), .int .u8 fl, .int .u8 an, .bool b, f 34, f 35, f 36, f 37, f 38, f 39, f 40, f 41, f 42, f 43, f 44], []⟩) (by kernel_rfl) (by kernel_rfl) (by kernel_rfl) ?_
    refine wpAnyH_take (i := 11) (oi := _) (v := .int .i64 pe) rfl (by kernel_rfl) (by kernel_rfl) (by kernel_rfl) (hQx _ _) (.inl ⟨by rfl, fun w' s1 => ?_⟩) (hSK _ hKb2) ?_
    · go_simp
    refine wpAnyH_take (i := 19) (oi := _) (v := .agg #[.int .i64 kd, .int .i64 pa, .int .i64 pe, .int .i64 un, .bool b, .string ⟨#[]⟩]) rfl (by kernel_rfl) (by kernel_rfl) (by kernel_rfl) (hQx _ _) (.inl ⟨by rfl, fun w' _ => by kernel_rfl⟩) (hSK _ hKb2) ?_
    refine wpAnyH_cast (f' := 2) (x' := #[true, true, true, true, true, true, true, true, true, true, true, true, true, true, true, true, true, true, true, true, false, false]) (a' := ⟨#[f 0, f 1, f 2, f 3, f 4, .pointer (some ⟨X, 0, none⟩), f 6, f 7, f 8, f 9, f 10, f 11, f 12, f 13, f 14, .pointer (some ⟨X, 3, none⟩), .int .u8 kd, .int .i64 kd, .pointer (some ⟨X, 0, none⟩), .pointer (some ⟨X, 0, none⟩), .pointer (some ⟨X, 0, none⟩), .int .i32 pa, .int .i64 pa, .pointer (some ⟨X, 0, none⟩), .agg #[.int .i32 pa, .int .i32 ((pe : Int) - pa)], .int .i32 pe, .int .i64 pe, .pointer (some ⟨X, 2, none⟩), .int .u16 un, .int .i64 un, .pointer (some ⟨X, 4, none⟩), .int .u8 fl, .int .u8 an, .bool b, .agg #[.int .i64 kd, .int .i64 pa, .int .i64 pe, .int .i64 un, .bool b, .string ⟨#[]⟩], f 35, f 36, f 37, f 38, f 39, f 40, f 41, f 42, f 43, f 44], []⟩) (by kernel_rfl) (by kernel_rfl) (by kernel_rfl) ?_
    refine wpAnyH_all (rs := [20]) (by kernel_rfl) (by decide) ?_
    intro i hi
    obtain rfl := List.mem_singleton.1 hi
    refine wpOp_step (o := _) rfl (fun K2 hK2' => ?_)
    rw [if_pos (by rfl)]
    go_simp
    have hKb3 : KeepA wb (w2.alloc (.cells #[.int .i64 0, .int .i64 0, .int .i64 0, .int .i64 0, .bool false, .string ⟨#[]⟩] 28)) := hKb2.alloc _
    refine hK2' _ _ ⟨hSK _ hKb3, ?_⟩
    have hG : (w2.alloc (.cells #[.int .i64 0, .int .i64 0, .int .i64 0, .int .i64 0, .bool false, .string ⟨#[]⟩] 28)).heap[w2.heap.size]? = some (.cells #[.int .i64 0, .int .i64 0, .int .i64 0, .int .i64 0, .bool false, .string ⟨#[]⟩] 28 (0, 0)) := heap_alloc_new _ _
    refine wpAnyH_cast (f' := 1) (x' := #[true, true, true, true, true, true, true, true, true, true, true, true, true, true, true, true, true, true, true, true, true, false]) (a' := ⟨#[f 0, f 1, f 2, f 3, f 4, .pointer (some ⟨X, 0, none⟩), .pointer (some ⟨w2.heap.size, 0, none⟩), f 7, f 8, f 9, f 10, f 11, f 12, f 13, f 14, .pointer (some ⟨X, 3, none⟩), .int .u8 kd, .int .i64 kd, .pointer (some ⟨X, 0, none⟩), .pointer (some ⟨X, 0, none⟩), .pointer (some ⟨X, 0, none⟩), .int .i32 pa, .int .i64 pa, .pointer (some ⟨X, 0, none⟩), .agg #[.int .i32 pa, .int .i32 ((pe : Int) - pa)], .int .i32 pe, .int .i64 pe, .pointer (some ⟨X, 2, none⟩), .int .u16 un, .int .i64 un, .pointer (some ⟨X, 4, none⟩), .int .u8 fl, .int .u8 an, .bool b, .agg #[.int .i64 kd, .int .i64 pa, .int .i64 pe, .int .i64 un, .bool b, .string ⟨#[]⟩], f 35, f 36, f 37, f 38, f 39, f 40, f 41, f 42, f 43, f 44], []⟩) (by kernel_rfl) (by kernel_rfl) (by kernel_rfl) ?_
    refine wpAnyH_all (rs := [21]) (by kernel_rfl) (by decide) ?_
    intro i hi
    obtain rfl := List.mem_singleton.1 hi
    refine wpOp_step (o := _) rfl (fun K3 hK3 => ?_)
    rw [if_pos (by rfl)]
    refine wp_store_row 28 _ _ rfl w2.heap.size #[.int .i64 kd, .int .i64 pa, .int .i64 pe, .int .i64 un, .bool b, .string ⟨#[]⟩] rfl rfl 28 _ hG (by kernel_rfl) (by kernel_rfl) (by kernel_rfl) ?_
    have hg2 := setRow_heap _ w2.heap.size _ #[.int .i64 kd, .int .i64 pa, .int .i64 pe, .int .i64 un, .bool b, .string ⟨#[]⟩] _ _ hG
    have hk2 : KeepA wb _ := (Keep.setRowN (g := w2.heap.size) hKb3 hKb2.size #[.int .i64 kd, .int .i64 pa, .int .i64 pe, .int .i64 un, .bool b, .string ⟨#[]⟩])
    refine hK3 _ _ ⟨hSK _ hk2, ?_⟩
    refine wpAnyH_done (by kernel_rfl) ?_ _
    exact ⟨rfl, w2.heap.size, fun j => if j = 15 then .pointer (some ⟨X, 3, none⟩) else if j = 16 then .int .u8 kd else if j = 17 then .int .i64 kd else if j = 18 then .pointer (some ⟨X, 0, none⟩) else if j = 19 then .pointer (some ⟨X, 0, none⟩) else if j = 20 then .pointer (some ⟨X, 0, none⟩) else if j = 21 then .int .i32 pa else if j = 22 then .int .i64 pa else if j = 23 then .pointer (some ⟨X, 0, none⟩) else if j = 24 then .agg #[.int .i32 pa, .int .i32 ((pe : Int) - pa)] else if j = 25 then .int .i32 pe else if j = 26 then .int .i64 pe else if j = 27 then .pointer (some ⟨X, 2, none⟩) else if j = 28 then .int .u16 un else if j = 29 then .int .i64 un else if j = 30 then .pointer (some ⟨X, 4, none⟩) else if j = 31 then .int .u8 fl else if j = 32 then .int .u8 an else if j = 33 then .bool b else .agg #[.int .i64 kd, .int .i64 pa, .int .i64 pe, .int .i64 un, .bool b, .string ⟨#[]⟩], rfl, hKb2.size, hg2, hk2⟩
  · obtain rfl := List.mem_singleton.1 hi
    refine wpOp_step (o := _) rfl (fun K1 hK1 => ?_)
    rw [if_pos (by rfl)]
    go_simp
    have hKb1 : KeepA wb (wb.drew.alloc (.cells #[.int .i64 0, .int .i64 0, .int .i64 0, .int .i64 0, .bool false, .string ⟨#[]⟩] 28)) := ((Keep.refl (fun _ => False) wb).drew).alloc _
    refine hK1 _ _ ⟨hSK _ hKb1, ?_⟩
    have hG0 : (wb.drew.alloc (.cells #[.int .i64 0, .int .i64 0, .int .i64 0, .int .i64 0, .bool false, .string ⟨#[]⟩] 28)).heap[wb.heap.size]? = some (.cells #[.int .i64 0, .int .i64 0, .int .i64 0, .int .i64 0, .bool false, .string ⟨#[]⟩] 28 (0, 0)) := heap_alloc_new _ _
    refine wpAnyH_cast (f' := 4) (x' := #[true, true, true, true, true, true, true, true, true, true, false, false, true, true, true, true, true, true, true, false, true, false]) (a' := ⟨#[f 0, f 1, f 2, f 3, f 4, .pointer (some ⟨X, 0, none⟩), .pointer (some ⟨wb.heap.size, 0, none⟩), f 7, f 8, f 9, f 10, f 11, f 12, f 13, f 14, .pointer (some ⟨X, 3, none⟩), .int .u8 kd, .int .i64 kd, .pointer (some ⟨X, 0, none⟩), .pointer (some ⟨X, 0, none⟩), .pointer (some ⟨X, 0, none⟩), .int .i32 pa, .int .i64 pa, .pointer (some ⟨X, 0, none⟩), .agg #[.int .i32 pa, .int .i32 ((pe : Int) - pa)], f 25, f 26, .pointer (some ⟨X, 2, none⟩), .int .u16 un, .int .i64 un, .pointer (some ⟨X, 4, none⟩), .int .u8 fl, .int .u8 an, .bool b, f 34, f 35, f 36, f 37, f 38, f 39, f 40, f 41, f 42, f 43, f 44], []⟩) (by kernel_rfl) (by kernel_rfl) (by kernel_rfl) ?_
    refine wpAnyH_all (rs := [10]) (by kernel_rfl) (by decide) ?_
    intro i hi
    obtain rfl := List.mem_singleton.1 hi
    refine wpOp_step (o := _) rfl (fun K2 hK2' => ?_)
    rw [if_pos (by rfl)]
    go_simp
    go_at_call 24
    refine (End_at pa pe hpe _).mono ?_
    rintro e w2 ⟨rfl, hK2⟩
    have hKb2 : KeepA wb w2 := hKb1.trans hK2
    have hG := hK2.blk hG0 (fun x => x)
    refine hK2' _ _ ⟨hSK _ hKb2, ?_⟩
    refine wpAnyH_cast (f' := 3) (x' := #[true, true, true, true, true, true, true, true, true, true, true, false, true, true, true, true, true, true, true, false, true, false]) (a' := ⟨#[f 0, f 1, f 2, f 3, f 4, .pointer (some ⟨X, 0, none⟩), .pointer (some ⟨wb.heap.size, 0, none⟩), f 7, f 8, f 9, f 10, f 11, f 12, f 13, f 14, .pointer (some ⟨X, 3, none⟩), .int .u8 kd, .int .i64 kd, .pointer (some ⟨X, 0, none⟩), .pointer (some ⟨X, 0, none⟩), .pointer (some ⟨X, 0, none⟩), .int .i32 pa, .int .i64 pa, .pointer (some ⟨X, 0, none⟩), .agg #[.int .i32 pa, .int .i32 ((pe : Int) - pa)], .int .i32 pe, f 26, .pointer (some ⟨X, 2, none⟩), .int .u16 un, .int .i64 un, .pointer (some ⟨X, 4, none⟩), .int .u8 fl, .int .u8 an, .bool b, f 34, f 35, f 36, f 37, f 38, f 39, f 40, f 41, f 42, f 43, f 44], []⟩) (by kernel_rfl) (by kernel_rfl) (by kernel_rfl) ?_
    refine wpAnyH_take (i := 11) (oi := _) (v := .int .i64 pe) rfl (by kernel_rfl) (by kernel_rfl) (by kernel_rfl) (hQx _ _) (.inl ⟨by rfl, fun w' s1 => ?_⟩) (hSK _ hKb2) ?_
    · go_simp
    refine wpAnyH_take (i := 19) (oi := _) (v := .agg #[.int .i64 kd, .int .i64 pa, .int .i64 pe, .int .i64 un, .bool b, .string ⟨#[]⟩]) rfl (by kernel_rfl) (by kernel_rfl) (by kernel_rfl) (hQx _ _) (.inl ⟨by rfl, fun w' _ => by kernel_rfl⟩) (hSK _ hKb2) ?_
    refine wpAnyH_cast (f' := 1) (x' := #[true, true, true, true, true, true, true, true, true, true, true, true, true, true, true, true, true, true, true, true, true, false]) (a' := ⟨#[f 0, f 1, f 2, f 3, f 4, .pointer (some ⟨X, 0, none⟩), .pointer (some ⟨wb.heap.size, 0, none⟩), f 7, f 8, f 9, f 10, f 11, f 12, f 13, f 14, .pointer (some ⟨X, 3, none⟩), .int .u8 kd, .int .i64 kd, .pointer (some ⟨X, 0, none⟩), .pointer (some ⟨X, 0, none⟩), .pointer (some ⟨X, 0, none⟩), .int .i32 pa, .int .i64 pa, .pointer (some ⟨X, 0, none⟩), .agg #[.int .i32 pa, .int .i32 ((pe : Int) - pa)], .int .i32 pe, .int .i64 pe, .pointer (some ⟨X, 2, none⟩), .int .u16 un, .int .i64 un, .pointer (some ⟨X, 4, none⟩), .int .u8 fl, .int .u8 an, .bool b, .agg #[.int .i64 kd, .int .i64 pa, .int .i64 pe, .int .i64 un, .bool b, .string ⟨#[]⟩], f 35, f 36, f 37, f 38, f 39, f 40, f 41, f 42, f 43, f 44], []⟩) (by kernel_rfl) (by kernel_rfl) (by kernel_rfl) ?_
    refine wpAnyH_all (rs := [21]) (by kernel_rfl) (by decide) ?_
    intro i hi
    obtain rfl := List.mem_singleton.1 hi
    refine wpOp_step (o := _) rfl (fun K3 hK3 => ?_)
    rw [if_pos (by rfl)]
    refine wp_store_row 28 _ _ rfl wb.heap.size #[.int .i64 kd, .int .i64 pa, .int .i64 pe, .int .i64 un, .bool b, .string ⟨#[]⟩] rfl rfl 28 _ hG (by kernel_rfl) (by kernel_rfl) (by kernel_rfl) ?_
    have hg2 := setRow_heap _ wb.heap.size _ #[.int .i64 kd, .int .i64 pa, .int .i64 pe, .int .i64 un, .bool b, .string ⟨#[]⟩] _ _ hG
    have hk2 : KeepA wb _ := (Keep.setRowN (g := wb.heap.size) hKb2 (Nat.le_refl _) #[.int .i64 kd, .int .i64 pa, .int .i64 pe, .int .i64 un, .bool b, .string ⟨#[]⟩])
    refine hK3 _ _ ⟨hSK _ hk2, ?_⟩
    refine wpAnyH_done (by kernel_rfl) ?_ _
    exact ⟨rfl, wb.heap.size, fun j => if j = 15 then .pointer (some ⟨X, 3, none⟩) else if j = 16 then .int .u8 kd else if j = 17 then .int .i64 kd else if j = 18 then .pointer (some ⟨X, 0, none⟩) else if j = 19 then .pointer (some ⟨X, 0, none⟩) else if j = 20 then .pointer (some ⟨X, 0, none⟩) else if j = 21 then .int .i32 pa else if j = 22 then .int .i64 pa else if j = 23 then .pointer (some ⟨X, 0, none⟩) else if j = 24 then .agg #[.int .i32 pa, .int .i32 ((pe : Int) - pa)] else if j = 25 then .int .i32 pe else if j = 26 then .int .i64 pe else if j = 27 then .pointer (some ⟨X, 2, none⟩) else if j = 28 then .int .u16 un else if j = 29 then .int .i64 un else if j = 30 then .pointer (some ⟨X, 4, none⟩) else if j = 31 then .int .u8 fl else if j = 32 then .int .u8 an else if j = 33 then .bool b else .agg #[.int .i64 kd, .int .i64 pa, .int .i64 pe, .int .i64 un, .bool b, .string ⟨#[]⟩], rfl, Nat.le_refl _, hg2, hk2⟩
theorem t12_list (l : List Value) (d : Value) (n : Nat) : l = (List.range' n l.length).map (fun i => l.getD (i - n) d) := by
  refine List.ext_getElem (by simp) ?_
  intro i h1 h2
  simp only [List.getElem_map, List.getElem_range', Nat.one_mul, Nat.add_sub_cancel_left]
  rw [List.getD_eq_getElem?_getD, List.getElem?_eq_getElem h1]
  rfl
theorem t12_letters (g : Nat → Value) : (List.range' 0 45).map (fun i => g (i - 0)) = [g 0, g 1, g 2, g 3, g 4, g 5, g 6, g 7, g 8, g 9, g 10, g 11, g 12, g 13, g 14, g 15, g 16, g 17, g 18, g 19, g 20, g 21, g 22, g 23, g 24, g 25, g 26, g 27, g 28, g 29, g 30, g 31, g 32, g 33, g 34, g 35, g 36, g 37, g 38, g 39, g 40, g 41, g 42, g 43, g 44] := rfl
theorem t12_at (fl an : Int) (b : Bool) (hand : bits BinOp.and .u8 fl 1 = an) (hne : (an != 0) = b) (wb : World) (X : Nat) (t : Array Value) (ht : t.size = 45) (h5 : t.toList.getD 5 undef = .pointer (some ⟨X, 0, none⟩)) (kd un : Int) (pa pe : Nat) (hB : wb.heap[X]? = some (.cells #[.int .i32 pa, .int .i32 ((pe : Int) - pa), .int .u16 un, .int .u8 kd, .int .u8 fl] 60 (0, 0))) (hk : 0 ≤ kd ∧ kd < 256) (hu : 0 ≤ un ∧ un < 65536) (hpa : pa ≤ 1073741824) (hpe : pe ≤ 1073741824) :
    Code.wp Tryz.prog t12R5 (T12Q wb X (fun j => t.toList.getD j undef) kd un pa pe b) ⟨t, []⟩ wb := by
  obtain ⟨l⟩ := t
  have e := t12_list l undef 0
  rw [show l.length = 45 from ht, t12_letters (fun i => l.getD i undef)] at e
  have e2 := congrArg List.toArray e
  simp only at h5 e2
  rw [h5] at e2
  refine Eq.mp (congrArg (fun z => Code.wp Tryz.prog t12R5 (T12Q wb X (fun j => l.getD j undef) kd un pa pe b) ⟨z, []⟩ wb) e2.symm) ?_
  exact t12_region fl an b hand hne wb X (fun j => l.getD j undef) kd un pa pe hB hk hu hpa hpe
end Go.Proofs.YtedckphklebndaaGreatDoor
