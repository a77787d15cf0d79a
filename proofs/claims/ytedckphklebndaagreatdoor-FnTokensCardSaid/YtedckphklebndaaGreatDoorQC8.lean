/- Proved: FnTokens returns true for every input, and leaves its input as it was: the tokens of every text that the law speaks of are those of the reference, with their places, whitespace behind whitespace taken together. Conditions: those of the given row (the two listed tables of unicode/utf8 read as the program's text lays them). -/
import Derived.Test.YtedckphklebndaaGreatDoorQM8
import Derived.Test.YtedckphklebndaaGreatDoorQC0
import Derived.Test.YtedckphklebndaaGreatDoorCards
import Derived.Test.YtedckphklebndaaGreatDoorTie
import Derived.SevenTiedAt
namespace Go.Proofs.YtedckphklebndaaGreatDoor
open Go Go.RowKit Go.ChangeShapes Go.WideShapes Go.ChangeAt Go.Lib
open Go.ChangeMaps (open_string shut_string)
set_option maxRecDepth 100000 in
set_option maxHeartbeats 4000000 in
theorem fnTokens_lifted (os : Os) (started : os.Started) (H : Type) (enc : TypeId × Value → H) :
    ReturnsInHanded {} Tryz.checked os 8 .any (fun w args => (Rows.fnTokensSpec.pre enc Tryz.prog Tryz.f8 [] false w args ∧ laidMetH Tryz.prog rowLaid w) ∧ sizedMet enc Tryz.prog Tryz.f8 (OpenSpec.ofChange Rows.fnTokensSpec) false w args)
      (Rows.fnTokensSpec.post enc Tryz.prog Tryz.f8 false true false false) := by
  refine returnsInHanded_of_change_and (C := Tryz.checked) (X := fun w _ => laidMetH Tryz.prog rowLaid w) (fun _ _ _ hh h => h.of_heap hh) row_own started (by kernel_rfl) Tryz.func8
    (ChangeSpec.witness_shaped (enc := enc) (C := Tryz.checked) (os := os) (X := fun w _ => laidMetH Tryz.prog rowLaid w) false (World.laidAll Tryz.prog os rowLaid) #[.string ⟨#[]⟩] 8 (World.laidAll_os _ _ _)
      (World.shaped_of_ZipB (by kernel_rfl) (by kernel_rfl)) (by kernel_rfl) (by kernel_rfl) (by kernel_rfl)
      (by rw [MakeChecks.laidMetH_plain _ _ _ (by kernel_rfl)]; exact laidMet_laidAll _ (by kernel_rfl) (by kernel_rfl))) ?_
  intro W base args ds gs before hval0 hW _ _ hL _
  have hval : ∀ (j : Nat) t v, Tryz.f8.params[j]? = some t → args[j]? = some v → Value.okWide Tryz.prog W .any base t v := hval0
  have hW' := hW
  obtain ⟨p, q, hA0, hV, rfl, _, _⟩ := hW
  have hA : DataW.TrodAll enc Tryz.prog W 0 (fun _ => true) true Tryz.f8.params.toList args.toList ds p := hA0
  rw [Tryz.params8] at hA hval
  obtain ⟨v0, d0, rfl, rfl, h0⟩ := trodAll_one hA
  obtain ⟨rfl, rfl⟩ := trodVars_none hV
  obtain ⟨x, rfl, rfl, rfl, wx⟩ := open_string Tryz.underlying9 (hval 0 9 v0 rfl rfl) h0
  simp only [List.append_nil] at hW'
  obtain ⟨hT, hsz⟩ := row_tabs hL
  refine (law8 x hsz hT).mono fun e W' ⟨he, hb⟩ => ?_
  subst he
  exact ⟨_, rfl, _, _, _, [], [], [], hW', trodAll_mk1 (shut_bool Tryz.underlying4 _), trodAll_mk1 (shut_string Tryz.underlying9 wx), rfl, hb.frame _, fun h => by cases h⟩
theorem fnTokens_row : Rows.FnTokensSaid :=
  OpenClaim.holds_of_wide 8 Tryz.f8 rfl rfl rfl rfl rfl rfl rfl ⟨rfl, rfl, rfl, rfl, rfl⟩ rfl rfl rfl rfl rfl (by kernel_rfl) Tryz.func8 (by kernel_rfl)
    (of_decide_eq_true (by kernel_rfl)) (by unfold Func.isWrapper; first | (rw [if_pos (by decide +kernel)]; kernel_rfl) | (rw [if_neg (by decide +kernel)]; exact ⟨rfl, rfl⟩))
    (fun os started H enc _ => fnTokens_lifted os started H enc)
theorem fnTokens_holds : Rows.FnTokensCardSaid :=
  Claim7.holds_tied_plain_at .later [] [.data, .pinned] true (true, "5ce53b156f6caee86c7acbeb6c3048856fdf005f06424948b49a7f6c1eda1342") false
    fnTokens_row (fun _ h => by cases h) (by kernel_rfl) (fun _ h => by cases h) fnTokens_row_tie rfl ⟨rfl, rfl⟩ (by kernel_rfl) rfl
    (fun f fn hf hfn => by
      obtain rfl : f = 8 := Option.some.inj ((show Tryz.prog.funcNamed "sheettokens/laws.FnTokens" = some 8 by kernel_rfl).symm.trans hf) |>.symm
      obtain rfl : fn = Tryz.f8 := (Option.some.inj (Tryz.func8.symm.trans hfn)).symm
      exact ⟨by kernel_rfl, fun j t ht => by
        rw [Tryz.params8] at ht
        have hm : t ∈ [9] := by simpa using Array.mem_of_getElem? ht
        have hall : ([9].all fun u => !Tryz.prog.wantsStandIn u) = true := by kernel_rfl
        exact (show Tryz.prog.wantsStandIn t = false by simpa using List.all_eq_true.1 hall t hm)⟩)
    (by kernel_rfl)
#print axioms fnTokens_holds
end Go.Proofs.YtedckphklebndaaGreatDoor
