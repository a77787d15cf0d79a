/- The package's decoding of escapes of digits, walked (a case of its loop). Conditions: those of the loop. -/
import Derived.Test.YtedckphklebndaaGreatDoorQGY8
namespace Go.Proofs.YtedckphklebndaaGreatDoor
open Go Go.RowKit
set_option maxRecDepth 1000000 in
set_option maxHeartbeats 16000000 in
theorem dc_hex {T : List UInt8} {w0 w : World} {b : Nat} {X : ByteArray} {out : List UInt8} {d : Int} {u : List Int} (hX : Wt X (92 :: d :: u)) (hs : X.size ≤ 1073741824) (hd : out ++ decF (92 :: d :: u) = T) (hT : T.length ≤ 4294967296) (hB : BK w0 w b out) (hU : Lib.Utf8Tabs 0 1 w0) (h2 : 2 ≤ b) (hx : 0 ≤ hexv d) (f : Nat → Value) :
    Code.wp Tryz.prog decBody (DcR T w0 b (92 :: d :: u).length) ⟨#[.string X, f 1, f 2, f 3, f 4, .pointer (some ⟨b, 0, none⟩), f 6, f 7, f 8, f 9, f 10, f 11, f 12, f 13, f 14, f 15, f 16, f 17, f 18, f 19, f 20, f 21, f 22, f 23, f 24, f 25, f 26, f 27, f 28, f 29, f 30, f 31, f 32, f 33, f 34, f 35, f 36, f 37, f 38, f 39, f 40, f 41, f 42, f 43, f 44, f 45, f 46, f 47, f 48, f 49, f 50, f 51, f 52, f 53, f 54, f 55, f 56, f 57, f 58, f 59, f 60, f 61, f 62, f 63, f 64, f 65, f 66, f 67, f 68, f 69, f 70, f 71, f 72, f 73, f 74, f 75, f 76, f 77, f 78, f 79, f 80, f 81, f 82, f 83, f 84, f 85, f 86, f 87, f 88, f 89, f 90, f 91, f 92, f 93, f 94, f 95, f 96, f 97, f 98, f 99, f 100, f 101, f 102, f 103, f 104, f 105, f 106, f 107, f 108, f 109, f 110, f 111, f 112, f 113, f 114, f 115, f 116, f 117, f 118, f 119, f 120, f 121, f 122, f 123, f 124, f 125, f 126, f 127, f 128, f 129, f 130, f 131, f 132, f 133, f 134, f 135, f 136, f 137, f 138, f 139, f 140, f 141, f 142, f 143, f 144, f 145, f 146, f 147, f 148, f 149, f 150, f 151, f 152, f 153, f 154, f 155], []⟩ w := by
  conv => arg 2; whnf
  have hol : out.length ≤ 4294967296 := by
    have e := congrArg List.length hd
    rw [List.length_append] at e
    omega
  have HDC := Lib.hid hd
  have hU2 := hB.tabs hU h2
  clear hd
  have hXp : 0 < X.size := hX.pos.2 (by simp)
  have hd1 := hX.dec w hU2
  rw [rn_of (by simp), hd_cons] at hd1
  have hw1 := hX.wdl_le
  have hr := hX.all.head
  obtain ⟨hr1, hr2, _⟩ := hr
  obtain ⟨n, hn⟩ : ∃ n, wdl (92 :: d :: u) = n := ⟨_, rfl⟩
  rw [hn] at hd1 hw1
  have HX1 : Hid (Wt (X.extract n X.size) (d :: u)) := Lib.hid (hX.cut hn.symm)
  have HS1 : Hid ((X.extract n X.size).size ≤ 1073741824) := Lib.hid (Nat.le_trans (Wt.cut_le n) hs)
  clear hX hn
  go_wp2_with fail
  refine hd1.mono ?_
  rintro e w1 ⟨rfl, hbel1⟩
  have hBK1 := hB.quiet hbel1
  clear hd1 hbel1 hB hU2
  go_upto_region 14 with (fail)
  obtain ⟨X1, hX1⟩ : ∃ x, X.extract n X.size = x := ⟨_, rfl⟩
  rw [hX1]
  rw [hX1] at HX1 HS1
  clear hX1 hw1 hXp
  have hX1p : 0 < X1.size := HX1.out.pos.2 (by simp)
  have hz : ((X1.size : Int) == 0) = false := by simp only [beq_eq_false_iff_ne]; omega
  have hd2 := HX1.out.dec w1 (hBK1.tabs hU h2)
  rw [rn_of (by simp), hd_cons] at hd2
  have hw2 := HX1.out.wdl_le
  obtain ⟨r1, r2, _⟩ := HX1.out.all.head
  obtain ⟨m, hm⟩ : ∃ m, wdl (d :: u) = m := ⟨_, rfl⟩
  rw [hm] at hd2 hw2
  have HX2 : Hid (Wt (X1.extract m X1.size) u) := Lib.hid (HX1.out.cut hm.symm)
  have HS2 : Hid ((X1.extract m X1.size).size ≤ 1073741824) := Lib.hid (Nat.le_trans (Wt.cut_le m) HS1.out)
  clear hm HX1
  go_wp2_with fail
  refine hd2.mono ?_
  rintro e w3 ⟨rfl, hbel3⟩
  have hBK3 := hBK1.quiet hbel3
  clear hd2 hbel3 hBK1
  go_upto_region 22 with (fail)
  obtain ⟨X2, hX2⟩ : ∃ x, X1.extract m X1.size = x := ⟨_, rfl⟩
  rw [hX2]
  rw [hX2] at HX2 HS2
  clear hX2 hw2 hX1p hz HS1
  have k1 := hxb_true hx
  have k2 : hxv d = hexv d := if_pos hx
  have h16 := (hexv_lt d).2
  have HXX := Lib.hid hx
  go_wp2_with (go_at_call 61; refine (isHex_calls _ _).mono ?_; rintro e w' ⟨rfl, rfl⟩)
  go_loopg [0, 8, 10] 5 (fun k a v j wq => DX (d :: u) w0 b out k a v j wq)
  case atStart => exact ⟨X2, u, hexv d, by omega, rfl, HX2.out, HS2.out, rfl, rfl, HXX.out, by simpa using h16, by rw [hexs_go (l := d :: u) (by simpa using HXX.out)]; simp, hBK3⟩
  case round =>
    obtain ⟨X, l', x, hn, rfl, hX, hXs, rfl, rfl, x0, x1, he, hBK⟩ := hrel
    clear hx k1 k2 h16 hBK3
    have HX1 := Lib.hid x1
    have HQ := Lib.hid he
    have x2 := pow_small (by omega) x1
    have HXw := Lib.hid hX
    clear x1 he
    by_cases hg : gk = 0 ∨ l' = [] ∨ ¬ 0 ≤ hexv (hd l')
    · have HS : Hid (hexs 6 0 (d :: u) = (x, l')) := Lib.hid (by
        rcases hg with e | e | e
        · subst e; exact HQ.out.symm
        · subst e; rw [← HQ.out]; cases gk <;> rfl
        · rw [← HQ.out, hexs_stop e])
      have HE : Hid (decF (92 :: d :: u) = enc (escVal x) ++ decF (skSp l')) := Lib.hid (by rw [decF_hex (by simpa using HXX.out), HS.out])
      have HLL : Hid ((skSp l').length < (92 :: d :: u).length) := Lib.hid (by
        have h1 := hexs_le 6 0 (d :: u)
        rw [HS.out] at h1
        have h3 := skSp_le l'
        simp only [List.length_cons] at h1 ⊢
        omega)
      have hg2 : (gk = 0 ∨ (0 < gk ∧ l' = [])) ∨ (0 < gk ∧ l' ≠ [] ∧ ¬ 0 ≤ hexv (hd l')) := by
        by_cases q1 : gk = 0
        · exact .inl (.inl q1)
        · by_cases q2 : l' = []
          · exact .inl (.inr ⟨by omega, q2⟩)
          · refine .inr ⟨by omega, q2, ?_⟩
            rcases hg with e | e | e
            · exact absurd e q1
            · exact absurd e q2
            · exact e
      clear hg
      cases l' with
      | nil =>
        have hX0 : X.size = 0 := by rw [hX.size]; rfl
        clear hX
        have hg3 : gk = 0 ∨ 0 < gk := by omega
        rcases hg3 with h0 | h0
        all_goals
          (try subst h0)
          rcases esc_cases x x0 with ⟨b1, HV⟩ | ⟨b1, b2, HV⟩ | ⟨b1, b2, b3, HV⟩ | ⟨b1, b2, HV⟩ | ⟨b1, b2, b3, HV⟩
          · go_wp2_with fail
            refine (Tryz.Builder_WriteRune_k b b (Lib.byteCells out) 65533 (by omega) (by omega) _ hBK.bf (by rw [Lib.byteCells_length]; omega) hBK.hb).mono ?_
            rintro e w9 ⟨rfl, hb9, hbel9, _⟩
            have hBK9 := hBK.rune hb9 hbel9
            clear hb9 hbel9 hBK
            go_wp2_with fail
            exact DcR.go (X := X) (l := ([] : List Int)) (out := out ++ enc 65533) ⟨rfl, rfl, rfl, rfl⟩ HXw.out (by simp) hXs (by rw [← HDC.out, HE.out, HV.out, List.append_assoc]; rfl) hBK9
          · go_wp2_with fail
            refine (Tryz.Builder_WriteRune_k b b (Lib.byteCells out) 65533 (by omega) (by omega) _ hBK.bf (by rw [Lib.byteCells_length]; omega) hBK.hb).mono ?_
            rintro e w9 ⟨rfl, hb9, hbel9, _⟩
            have hBK9 := hBK.rune hb9 hbel9
            clear hb9 hbel9 hBK
            go_wp2_with fail
            exact DcR.go (X := X) (l := ([] : List Int)) (out := out ++ enc 65533) ⟨rfl, rfl, rfl, rfl⟩ HXw.out (by simp) hXs (by rw [← HDC.out, HE.out, HV.out, List.append_assoc]; rfl) hBK9
          · go_wp2_with fail
            refine (Tryz.Builder_WriteRune_k b b (Lib.byteCells out) 65533 (by omega) (by omega) _ hBK.bf (by rw [Lib.byteCells_length]; omega) hBK.hb).mono ?_
            rintro e w9 ⟨rfl, hb9, hbel9, _⟩
            have hBK9 := hBK.rune hb9 hbel9
            clear hb9 hbel9 hBK
            go_wp2_with fail
            exact DcR.go (X := X) (l := ([] : List Int)) (out := out ++ enc 65533) ⟨rfl, rfl, rfl, rfl⟩ HXw.out (by simp) hXs (by rw [← HDC.out, HE.out, HV.out, List.append_assoc]; rfl) hBK9
          · go_wp2_with fail
            refine (Tryz.Builder_WriteRune_k b b (Lib.byteCells out) x (by omega) (by omega) _ hBK.bf (by rw [Lib.byteCells_length]; omega) hBK.hb).mono ?_
            rintro e w9 ⟨rfl, hb9, hbel9, _⟩
            have hBK9 := hBK.rune hb9 hbel9
            clear hb9 hbel9 hBK
            go_wp2_with fail
            exact DcR.go (X := X) (l := ([] : List Int)) (out := out ++ enc x) ⟨rfl, rfl, rfl, rfl⟩ HXw.out (by simp) hXs (by rw [← HDC.out, HE.out, HV.out, List.append_assoc]; rfl) hBK9
          · go_wp2_with fail
            refine (Tryz.Builder_WriteRune_k b b (Lib.byteCells out) x (by omega) (by omega) _ hBK.bf (by rw [Lib.byteCells_length]; omega) hBK.hb).mono ?_
            rintro e w9 ⟨rfl, hb9, hbel9, _⟩
            have hBK9 := hBK.rune hb9 hbel9
            clear hb9 hbel9 hBK
            go_wp2_with fail
            exact DcR.go (X := X) (l := ([] : List Int)) (out := out ++ enc x) ⟨rfl, rfl, rfl, rfl⟩ HXw.out (by simp) hXs (by rw [← HDC.out, HE.out, HV.out, List.append_assoc]; rfl) hBK9
      | cons y z =>
        have hXp : 0 < X.size := hX.pos.2 (by simp)
        have hw5 := hX.wdl_le
        obtain ⟨m, hm⟩ : ∃ m, wdl (y :: z) = m := ⟨_, rfl⟩
        rw [hm] at hw5
        have HDF : Hid (∀ w', Lib.Utf8Tabs 0 1 w' → Calls Tryz.prog 59 #[.string X] w' fun e w2 => e = .returned (.tuple #[.int .i32 y, .int .i64 (m : Nat)]) ∧ Below w'.heap.size w' w2) := Lib.hid (fun w' h' => by
          have := hX.dec w' h'
          rw [rn_of (by simp), hd_cons, hm] at this
          exact this)
        have HX5 : Hid (Wt (X.extract m X.size) z) := Lib.hid (hX.cut hm.symm)
        have HS5 : Hid ((X.extract m X.size).size ≤ 1073741824) := Lib.hid (Nat.le_trans (Wt.cut_le m) hXs)
        clear hm hX
        have hg3 : gk = 0 ∨ (0 < gk ∧ hxb y = false) := by
          rcases hg2 with (e | ⟨_, e⟩) | ⟨e1, _, e3⟩
          · exact .inl e
          · cases e
          · exact .inr ⟨e1, hxb_false (by simpa using e3)⟩
        clear hg2
        cases hy : isSp y with
        | true =>
          have HSK : Hid (skSp (y :: z) = z) := Lib.hid (if_pos hy)
          rcases hg3 with h0 | ⟨h0, k1⟩
          all_goals
            (try subst h0)
            rcases esc_cases x x0 with ⟨b1, HV⟩ | ⟨b1, b2, HV⟩ | ⟨b1, b2, b3, HV⟩ | ⟨b1, b2, HV⟩ | ⟨b1, b2, b3, HV⟩
            · go_wp2_with (first | (go_at_call 61; refine (isHex_calls _ _).mono ?_; rintro e w' ⟨rfl, rfl⟩) | (go_at_call 34; refine (isWhitespace_calls _ _).mono ?_; rintro e w' ⟨rfl, rfl⟩) | (go_at_call 59; refine (HDF.out _ (hBK.tabs hU h2)).mono ?_; rintro e w5 ⟨rfl, hbel5⟩; have hBK6 := hBK.quiet hbel5; clear hBK; have hBK := hBK6; clear hBK6))
              have hBK7 := hBK
              refine (Tryz.Builder_WriteRune_k b b (Lib.byteCells out) 65533 (by omega) (by omega) _ hBK7.bf (by rw [Lib.byteCells_length]; omega) hBK7.hb).mono ?_
              rintro e w9 ⟨rfl, hb9, hbel9, _⟩
              have hBK9 := hBK7.rune hb9 hbel9
              clear hb9 hbel9 hBK
              go_wp2_with fail
              exact DcR.go (X := (X.extract m X.size)) (l := z) (out := out ++ enc 65533) ⟨rfl, rfl, rfl, rfl⟩ HX5.out (by have := HLL.out; rw [HSK.out] at this; exact this) HS5.out (by rw [← HDC.out, HE.out, HV.out, HSK.out, List.append_assoc]) hBK9
            · go_wp2_with (first | (go_at_call 61; refine (isHex_calls _ _).mono ?_; rintro e w' ⟨rfl, rfl⟩) | (go_at_call 34; refine (isWhitespace_calls _ _).mono ?_; rintro e w' ⟨rfl, rfl⟩) | (go_at_call 59; refine (HDF.out _ (hBK.tabs hU h2)).mono ?_; rintro e w5 ⟨rfl, hbel5⟩; have hBK6 := hBK.quiet hbel5; clear hBK; have hBK := hBK6; clear hBK6))
              have hBK7 := hBK
              refine (Tryz.Builder_WriteRune_k b b (Lib.byteCells out) 65533 (by omega) (by omega) _ hBK7.bf (by rw [Lib.byteCells_length]; omega) hBK7.hb).mono ?_
              rintro e w9 ⟨rfl, hb9, hbel9, _⟩
              have hBK9 := hBK7.rune hb9 hbel9
              clear hb9 hbel9 hBK
              go_wp2_with fail
              exact DcR.go (X := (X.extract m X.size)) (l := z) (out := out ++ enc 65533) ⟨rfl, rfl, rfl, rfl⟩ HX5.out (by have := HLL.out; rw [HSK.out] at this; exact this) HS5.out (by rw [← HDC.out, HE.out, HV.out, HSK.out, List.append_assoc]) hBK9
            · go_wp2_with (first | (go_at_call 61; refine (isHex_calls _ _).mono ?_; rintro e w' ⟨rfl, rfl⟩) | (go_at_call 34; refine (isWhitespace_calls _ _).mono ?_; rintro e w' ⟨rfl, rfl⟩) | (go_at_call 59; refine (HDF.out _ (hBK.tabs hU h2)).mono ?_; rintro e w5 ⟨rfl, hbel5⟩; have hBK6 := hBK.quiet hbel5; clear hBK; have hBK := hBK6; clear hBK6))
              have hBK7 := hBK
              refine (Tryz.Builder_WriteRune_k b b (Lib.byteCells out) 65533 (by omega) (by omega) _ hBK7.bf (by rw [Lib.byteCells_length]; omega) hBK7.hb).mono ?_
              rintro e w9 ⟨rfl, hb9, hbel9, _⟩
              have hBK9 := hBK7.rune hb9 hbel9
              clear hb9 hbel9 hBK
              go_wp2_with fail
              exact DcR.go (X := (X.extract m X.size)) (l := z) (out := out ++ enc 65533) ⟨rfl, rfl, rfl, rfl⟩ HX5.out (by have := HLL.out; rw [HSK.out] at this; exact this) HS5.out (by rw [← HDC.out, HE.out, HV.out, HSK.out, List.append_assoc]) hBK9
            · go_wp2_with (first | (go_at_call 61; refine (isHex_calls _ _).mono ?_; rintro e w' ⟨rfl, rfl⟩) | (go_at_call 34; refine (isWhitespace_calls _ _).mono ?_; rintro e w' ⟨rfl, rfl⟩) | (go_at_call 59; refine (HDF.out _ (hBK.tabs hU h2)).mono ?_; rintro e w5 ⟨rfl, hbel5⟩; have hBK6 := hBK.quiet hbel5; clear hBK; have hBK := hBK6; clear hBK6))
              have hBK7 := hBK
              refine (Tryz.Builder_WriteRune_k b b (Lib.byteCells out) x (by omega) (by omega) _ hBK7.bf (by rw [Lib.byteCells_length]; omega) hBK7.hb).mono ?_
              rintro e w9 ⟨rfl, hb9, hbel9, _⟩
              have hBK9 := hBK7.rune hb9 hbel9
              clear hb9 hbel9 hBK
              go_wp2_with fail
              exact DcR.go (X := (X.extract m X.size)) (l := z) (out := out ++ enc x) ⟨rfl, rfl, rfl, rfl⟩ HX5.out (by have := HLL.out; rw [HSK.out] at this; exact this) HS5.out (by rw [← HDC.out, HE.out, HV.out, HSK.out, List.append_assoc]) hBK9
            · go_wp2_with (first | (go_at_call 61; refine (isHex_calls _ _).mono ?_; rintro e w' ⟨rfl, rfl⟩) | (go_at_call 34; refine (isWhitespace_calls _ _).mono ?_; rintro e w' ⟨rfl, rfl⟩) | (go_at_call 59; refine (HDF.out _ (hBK.tabs hU h2)).mono ?_; rintro e w5 ⟨rfl, hbel5⟩; have hBK6 := hBK.quiet hbel5; clear hBK; have hBK := hBK6; clear hBK6))
              have hBK7 := hBK
              refine (Tryz.Builder_WriteRune_k b b (Lib.byteCells out) x (by omega) (by omega) _ hBK7.bf (by rw [Lib.byteCells_length]; omega) hBK7.hb).mono ?_
              rintro e w9 ⟨rfl, hb9, hbel9, _⟩
              have hBK9 := hBK7.rune hb9 hbel9
              clear hb9 hbel9 hBK
              go_wp2_with fail
              exact DcR.go (X := (X.extract m X.size)) (l := z) (out := out ++ enc x) ⟨rfl, rfl, rfl, rfl⟩ HX5.out (by have := HLL.out; rw [HSK.out] at this; exact this) HS5.out (by rw [← HDC.out, HE.out, HV.out, HSK.out, List.append_assoc]) hBK9
        | false =>
          have HSK : Hid (skSp (y :: z) = y :: z) := Lib.hid (if_neg (by simp [hy]))
          rcases hg3 with h0 | ⟨h0, k1⟩
          all_goals
            (try subst h0)
            rcases esc_cases x x0 with ⟨b1, HV⟩ | ⟨b1, b2, HV⟩ | ⟨b1, b2, b3, HV⟩ | ⟨b1, b2, HV⟩ | ⟨b1, b2, b3, HV⟩
            · go_wp2_with (first | (go_at_call 61; refine (isHex_calls _ _).mono ?_; rintro e w' ⟨rfl, rfl⟩) | (go_at_call 34; refine (isWhitespace_calls _ _).mono ?_; rintro e w' ⟨rfl, rfl⟩) | (go_at_call 59; refine (HDF.out _ (hBK.tabs hU h2)).mono ?_; rintro e w5 ⟨rfl, hbel5⟩; have hBK6 := hBK.quiet hbel5; clear hBK; have hBK := hBK6; clear hBK6))
              have hBK7 := hBK
              refine (Tryz.Builder_WriteRune_k b b (Lib.byteCells out) 65533 (by omega) (by omega) _ hBK7.bf (by rw [Lib.byteCells_length]; omega) hBK7.hb).mono ?_
              rintro e w9 ⟨rfl, hb9, hbel9, _⟩
              have hBK9 := hBK7.rune hb9 hbel9
              clear hb9 hbel9 hBK
              go_wp2_with fail
              exact DcR.go (X := X) (l := (y :: z)) (out := out ++ enc 65533) ⟨rfl, rfl, rfl, rfl⟩ HXw.out (by have := HLL.out; rw [HSK.out] at this; exact this) hXs (by rw [← HDC.out, HE.out, HV.out, HSK.out, List.append_assoc]) hBK9
            · go_wp2_with (first | (go_at_call 61; refine (isHex_calls _ _).mono ?_; rintro e w' ⟨rfl, rfl⟩) | (go_at_call 34; refine (isWhitespace_calls _ _).mono ?_; rintro e w' ⟨rfl, rfl⟩) | (go_at_call 59; refine (HDF.out _ (hBK.tabs hU h2)).mono ?_; rintro e w5 ⟨rfl, hbel5⟩; have hBK6 := hBK.quiet hbel5; clear hBK; have hBK := hBK6; clear hBK6))
              have hBK7 := hBK
              refine (Tryz.Builder_WriteRune_k b b (Lib.byteCells out) 65533 (by omega) (by omega) _ hBK7.bf (by rw [Lib.byteCells_length]; omega) hBK7.hb).mono ?_
              rintro e w9 ⟨rfl, hb9, hbel9, _⟩
              have hBK9 := hBK7.rune hb9 hbel9
              clear hb9 hbel9 hBK
              go_wp2_with fail
              exact DcR.go (X := X) (l := (y :: z)) (out := out ++ enc 65533) ⟨rfl, rfl, rfl, rfl⟩ HXw.out (by have := HLL.out; rw [HSK.out] at this; exact this) hXs (by rw [← HDC.out, HE.out, HV.out, HSK.out, List.append_assoc]) hBK9
            · go_wp2_with (first | (go_at_call 61; refine (isHex_calls _ _).mono ?_; rintro e w' ⟨rfl, rfl⟩) | (go_at_call 34; refine (isWhitespace_calls _ _).mono ?_; rintro e w' ⟨rfl, rfl⟩) | (go_at_call 59; refine (HDF.out _ (hBK.tabs hU h2)).mono ?_; rintro e w5 ⟨rfl, hbel5⟩; have hBK6 := hBK.quiet hbel5; clear hBK; have hBK := hBK6; clear hBK6))
              have hBK7 := hBK
              refine (Tryz.Builder_WriteRune_k b b (Lib.byteCells out) 65533 (by omega) (by omega) _ hBK7.bf (by rw [Lib.byteCells_length]; omega) hBK7.hb).mono ?_
              rintro e w9 ⟨rfl, hb9, hbel9, _⟩
              have hBK9 := hBK7.rune hb9 hbel9
              clear hb9 hbel9 hBK
              go_wp2_with fail
              exact DcR.go (X := X) (l := (y :: z)) (out := out ++ enc 65533) ⟨rfl, rfl, rfl, rfl⟩ HXw.out (by have := HLL.out; rw [HSK.out] at this; exact this) hXs (by rw [← HDC.out, HE.out, HV.out, HSK.out, List.append_assoc]) hBK9
            · go_wp2_with (first | (go_at_call 61; refine (isHex_calls _ _).mono ?_; rintro e w' ⟨rfl, rfl⟩) | (go_at_call 34; refine (isWhitespace_calls _ _).mono ?_; rintro e w' ⟨rfl, rfl⟩) | (go_at_call 59; refine (HDF.out _ (hBK.tabs hU h2)).mono ?_; rintro e w5 ⟨rfl, hbel5⟩; have hBK6 := hBK.quiet hbel5; clear hBK; have hBK := hBK6; clear hBK6))
              have hBK7 := hBK
              refine (Tryz.Builder_WriteRune_k b b (Lib.byteCells out) x (by omega) (by omega) _ hBK7.bf (by rw [Lib.byteCells_length]; omega) hBK7.hb).mono ?_
              rintro e w9 ⟨rfl, hb9, hbel9, _⟩
              have hBK9 := hBK7.rune hb9 hbel9
              clear hb9 hbel9 hBK
              go_wp2_with fail
              exact DcR.go (X := X) (l := (y :: z)) (out := out ++ enc x) ⟨rfl, rfl, rfl, rfl⟩ HXw.out (by have := HLL.out; rw [HSK.out] at this; exact this) hXs (by rw [← HDC.out, HE.out, HV.out, HSK.out, List.append_assoc]) hBK9
            · go_wp2_with (first | (go_at_call 61; refine (isHex_calls _ _).mono ?_; rintro e w' ⟨rfl, rfl⟩) | (go_at_call 34; refine (isWhitespace_calls _ _).mono ?_; rintro e w' ⟨rfl, rfl⟩) | (go_at_call 59; refine (HDF.out _ (hBK.tabs hU h2)).mono ?_; rintro e w5 ⟨rfl, hbel5⟩; have hBK6 := hBK.quiet hbel5; clear hBK; have hBK := hBK6; clear hBK6))
              have hBK7 := hBK
              refine (Tryz.Builder_WriteRune_k b b (Lib.byteCells out) x (by omega) (by omega) _ hBK7.bf (by rw [Lib.byteCells_length]; omega) hBK7.hb).mono ?_
              rintro e w9 ⟨rfl, hb9, hbel9, _⟩
              have hBK9 := hBK7.rune hb9 hbel9
              clear hb9 hbel9 hBK
              go_wp2_with fail
              exact DcR.go (X := X) (l := (y :: z)) (out := out ++ enc x) ⟨rfl, rfl, rfl, rfl⟩ HXw.out (by have := HLL.out; rw [HSK.out] at this; exact this) hXs (by rw [← HDC.out, HE.out, HV.out, HSK.out, List.append_assoc]) hBK9
    · obtain ⟨n, rfl⟩ : ∃ n, gk = n + 1 := ⟨gk - 1, by have := fun e => hg (.inl e); omega⟩
      have hhx : 0 ≤ hexv (hd l') := by
        by_cases q : 0 ≤ hexv (hd l')
        · exact q
        · exact absurd (.inr (.inr q)) hg
      cases l' with
      | nil => exact absurd (.inr (.inl rfl)) hg
      | cons y z =>
        clear hg
        have hXp : 0 < X.size := hX.pos.2 (by simp)
        have hw5 := hX.wdl_le
        obtain ⟨m, hm⟩ : ∃ m, wdl (y :: z) = m := ⟨_, rfl⟩
        rw [hm] at hw5
        have HDF : Hid (∀ w', Lib.Utf8Tabs 0 1 w' → Calls Tryz.prog 59 #[.string X] w' fun e w2 => e = .returned (.tuple #[.int .i32 y, .int .i64 (m : Nat)]) ∧ Below w'.heap.size w' w2) := Lib.hid (fun w' h' => by
          have := hX.dec w' h'
          rw [rn_of (by simp), hd_cons, hm] at this
          exact this)
        have HX5 : Hid (Wt (X.extract m X.size) z) := Lib.hid (hX.cut hm.symm)
        have HS5 : Hid ((X.extract m X.size).size ≤ 1073741824) := Lib.hid (Nat.le_trans (Wt.cut_le m) hXs)
        clear hm hX
        rw [hd_cons] at hhx
        have k1 := hxb_true hhx
        have k2 : hxv y = hexv y := if_pos hhx
        have h16 := (hexv_lt y).2
        have HY := Lib.hid hhx
        go_wp2_with (first | (go_at_call 61; refine (isHex_calls _ _).mono ?_; rintro e w' ⟨rfl, rfl⟩) | (go_at_call 59; refine (HDF.out _ (hBK.tabs hU h2)).mono ?_; rintro e w5 ⟨rfl, hbel5⟩))
        go_roundg n
        case measure => omega
        case rel => exact DX.next hn x0 HX1.out HQ.out (by simpa using HY.out) rfl HX5.out HS5.out rfl rfl (hBK.quiet hbel5)
end Go.Proofs.YtedckphklebndaaGreatDoor
