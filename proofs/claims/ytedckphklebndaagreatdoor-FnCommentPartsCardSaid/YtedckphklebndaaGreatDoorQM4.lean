/- The law on a comment between two texts, walked. Conditions: the tables of unicode/utf8 lie in blocks 0 and 1. -/
import Derived.Test.YtedckphklebndaaGreatDoorQM2
namespace Go.Proofs.YtedckphklebndaaGreatDoor
open Go Go.RowKit
theorem wt_par : Wt ⟨#[47, 42, 42, 47]⟩ [47, 42, 42, 47] := wt_ascii [47, 42, 42, 47] _ (by decide) (rn_ascii (by decide))
theorem wt_parts {s t : ByteArray} {l m : List Int} (h : Wt s l) (k : Wt t m) : Wt (s ++ ⟨#[47, 42, 42, 47]⟩ ++ t) (l ++ 47 :: 42 :: 42 :: 47 :: m) := by
  have := wt_app (wt_app h wt_par) k
  simpa using this
theorem size_parts (s t : ByteArray) : (s ++ ⟨#[47, 42, 42, 47]⟩ ++ t : ByteArray).size = s.size + t.size + 4 := by
  rw [ByteArray.size_append, ByteArray.size_append]
  show s.size + 4 + t.size = _
  omega
theorem hd_app_ne {l m : List Int} {c : Int} (h1 : hd l ≠ c) (h2 : hd m ≠ c) : hd (l ++ m) ≠ c := by
  cases l with
  | nil => exact h2
  | cons a l => exact h1
theorem size_x (t : ByteArray) : ((⟨#[120]⟩ : ByteArray) ++ t).size = t.size + 1 := by
  rw [ByteArray.size_append, Nat.add_comm]; rfl
theorem plain_x (t : ByteArray) (h : t.size ≤ 2147483647) (w : World) : Calls Tryz.prog 17 #[.string (⟨#[120]⟩ ++ t)] w fun e w' => ∃ b : Bool, e = .returned (.bool b) ∧ w = w' := by
  have hs : ((⟨#[120]⟩ : ByteArray) ++ t).size ≤ 140737488355328 := by rw [size_x]; omega
  obtain ⟨z, hz⟩ : ∃ z, (⟨#[120]⟩ : ByteArray) ++ t = z := ⟨_, rfl⟩
  rw [hz] at hs ⊢
  exact (IsPlain_calls z hs w).mono fun _ _ ⟨b, h1, _, h3⟩ => ⟨b, h1, h3⟩
/-- The law, in plain lists. -/
theorem plain4 {s t z : ByteArray} {l m : List Int} {L L2 L3 : List PT} (ho : (toks l).2 = false) (ho2 : (toks m).2 = false) (h : Fa2 (PR s) (ptoks l) L) (h2 : Fa2 (PR t) (ptoks m) L2) (h3 : Fa2 (PR z) (ptoks (l ++ 47 :: 42 :: 42 :: 47 :: m)) L3) : allAlikeB L3 (L ++ L2) = true := by
  have hv := parts_view ho ho2
  apply allAlike_of
  rw [PR.view h3 hv.1, hv.2, mrg_idem _ _ _ _ (fun q => q), List.map_append, PR.view h ho, PR.view h2 ho2]
set_option maxRecDepth 100000 in
set_option maxHeartbeats 8000000 in
theorem law4 {w : World} (s t : ByteArray) (h2 : 2 ≤ w.heap.size) (htab : Lib.Utf8Tabs 0 1 w) : Calls Tryz.prog 4 #[.string s, .string t] w (LawP w) := by
  by_cases hbig : (s.size : Int) > 2147483647
  · go_enter Tryz.func4, Tryz.ntmps4
    go_wp2_with fail
    go_ret
    exact ⟨rfl, Below.refl _ _⟩
  by_cases hbig2 : (t.size : Int) > 2147483647
  · go_enter Tryz.func4, Tryz.ntmps4
    go_wp2_with fail
    go_ret
    exact ⟨rfl, Below.refl _ _⟩
  go_enter Tryz.func4, Tryz.ntmps4
  go_wp2_with fail
  refine (whole_calls s (by omega) _).mono ?_
  rintro e w1 ⟨b, rfl, hb1, hK1⟩
  have hb := hK1.law
  cases b with
  | false =>
    clear hb1
    go_wp2_with fail
    refine (wakes_at h2 htab hb).mono ?_
    rintro e w2 ⟨rfl, hb2⟩
    go_wp2_with fail
    go_ret
    exact ⟨rfl, hb2⟩
  | true =>
    obtain ⟨l, hW⟩ := hb1 rfl
    have hsz := hW.2.2.2.2
    have HW := Lib.hid hW
    clear hb1 hW hK1
    go_wp2_with fail
    refine (plain_x t (by omega) _).mono ?_
    rintro e w1' ⟨b, rfl, rfl⟩
    cases b with
    | false =>
      go_wp2_with fail
      refine (wakes_at h2 htab hb).mono ?_
      rintro e w2 ⟨rfl, hb2⟩
      go_wp2_with fail
      go_ret
      exact ⟨rfl, hb2⟩
    | true =>
      go_wp2_with fail
      refine (whole_calls t (by omega) _).mono ?_
      rintro e w3 ⟨b, rfl, hb1, hK3⟩
      have hb3 := below_more hb hK3.law
      cases b with
      | false =>
        clear hb1
        go_wp2_with fail
        refine (wakes_at h2 htab hb3).mono ?_
        rintro e w2 ⟨rfl, hb2⟩
        go_wp2_with fail
        go_ret
        exact ⟨rfl, hb2⟩
      | true =>
        obtain ⟨m, hV⟩ := hb1 rfl
        have htz := hV.2.2.2.2
        have HV := Lib.hid hV
        clear hb1 hV hK3 hb
        go_wp2_with fail
        refine (Tokens_at HW.out.1 HW.out.2.1 (by omega) HW.out.2.2.1 HW.out.2.2.2.1 h2 htab hb3).mono ?_
        rintro e w4 ⟨v1, L, rfl, hfa, hrw, hbT⟩
        have hb4 := below_more hb3 hbT
        have HF := Lib.hid hfa
        have HL : Hid (L.length ≤ 32768) := Lib.hid (hfa.few HW.out.1 hsz)
        go_wp2_with fail
        refine (merged_of hfa HW.out.2.2.2.1 hrw (by have := HW.out.few; omega) rfl).mono ?_
        rintro e w5 ⟨v2, rfl, hrw2, hbM⟩
        have hb5 := below_more hb4 hbM
        have H4 := Lib.hid hb4.size
        have H45 := Lib.hid hbM.size
        clear hfa hrw hbT hbM hb3 hb4
        go_wp2_with fail
        refine (Tokens_at HV.out.1 HV.out.2.1 (by omega) HV.out.2.2.1 HV.out.2.2.2.1 h2 htab hb5).mono ?_
        rintro e w6 ⟨v3, L2, rfl, hfa, hrw, hbT⟩
        have hb6 := below_more hb5 hbT
        have HF2 := Lib.hid hfa
        have HL2 : Hid (L2.length ≤ 32768) := Lib.hid (hfa.few HV.out.1 htz)
        have hrw2 := hrw2.below hbT
        go_wp2_with fail
        refine (merged_of hfa HV.out.2.2.2.1 hrw (by have := HV.out.few; omega) rfl).mono ?_
        rintro e w7 ⟨v4, rfl, hrw4, hbM⟩
        have hb7 := below_more hb6 hbM
        have HR2 := Lib.hid (hrw2.below hbM)
        have HR4 := Lib.hid hrw4
        have HS : Hid (w4.heap.size ≤ w7.heap.size) := Lib.hid (by have := H45.out; have := hbM.size; have := hbT.size; omega)
        have H6 := Lib.hid hbT.size
        clear hfa hrw hbT hbM hb5 hb6 hrw2 hrw4
        go_wp2_with (at_builtin; go_loud (refine wpList_append_rw rfl _ _ rfl rfl rfl HR2.out HR4.out (by have := HL.out; have := HL2.out; omega) HS.out ?_; intro vA w8 hrA hgA; have HRA := Lib.hid hrA; have hb8 := hb7.trans (HR2.out.grown hgA H4.out hb7.size); clear hrA hgA))
        have hpv := parts_view HW.out.2.2.2.1 HV.out.2.2.2.1
        have hsz2 : (s ++ ⟨#[47, 42, 42, 47]⟩ ++ t : ByteArray).size ≤ 524288 := by rw [size_parts]; omega
        have HSZ := Lib.hid hsz2
        have hx := Tokens_at (w := w) (w1 := w8) (wt_parts HW.out.wt HV.out.wt).sfx (wt_parts HW.out.wt HV.out.wt).ps hsz2 (hd_app_ne HW.out.2.2.1 (show (47 : Int) ≠ 65279 by decide)) hpv.1 h2 htab hb8
        refine hx.mono ?_
        rintro e w9 ⟨v5, L3, rfl, hfa, hrw, hbT⟩
        have hb9 := below_more hb8 hbT
        have HP : Hid (allAlikeB L3 (L ++ L2) = true) := Lib.hid (plain4 HW.out.2.2.2.1 HV.out.2.2.2.1 HF.out HF2.out hfa)
        have HL3 : Hid (L3.length ≤ 524288) := Lib.hid (hfa.few (wt_parts HW.out.wt HV.out.wt).sfx HSZ.out)
        have HR5 := Lib.hid hrw
        have HRB := Lib.hid (HRA.out.below hbT)
        clear hx hpv hfa hrw hbT hb8 hb7 hsz2
        go_wp2_with fail
        refine (allAlike_calls HR5.out HRB.out (by have := HL3.out; omega) (by have := HL.out; have := HL2.out; simp; omega)).mono ?_
        rintro e w10 ⟨rfl, hb10⟩
        have hb11 := below_more hb9 hb10
        rw [HP.out]
        go_wp2_with fail
        refine (wakes_at h2 htab hb11).mono ?_
        rintro e w12 ⟨rfl, hb12⟩
        go_wp2_with fail
        go_ret
        exact ⟨rfl, hb12⟩
end Go.Proofs.YtedckphklebndaaGreatDoor
