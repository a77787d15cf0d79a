/- Proved: FnEndsOfLinesAgree returns true for every input, and leaves its input as it was: it does not matter whether lines end by a line feed, by a carriage return and a line feed, or by a form feed. Conditions: those of the given row (the two listed tables of unicode/utf8 read as the program's text lays them). -/
import Derived.Test.YtedckphklebndaaGreatDoorQM6
import Derived.Test.YtedckphklebndaaGreatDoorQC0
import Derived.ChangeSlices
import Derived.Carry
import Derived.Test.YtedckphklebndaaGreatDoorCards
import Derived.Test.YtedckphklebndaaGreatDoorTie
import Derived.SevenTiedAt
namespace Go.Proofs.YtedckphklebndaaGreatDoor
open Go Go.RowKit Go.ChangeShapes Go.WideShapes Go.ChangeAt Go.Lib
open Go.ChangeMaps (open_string shut_string)
theorem row_out : laidOutB Tryz.prog = true := by kernel_rfl
theorem row_cells3 : Tryz.prog.cellsOf 3 = 1 := by kernel_rfl
theorem cell_blk {w : World} {a : Addr} {v : Value} (h : w.cell? a = some v) : a.block < w.heap.size := by
  rcases Nat.lt_or_ge a.block w.heap.size with h' | h'
  · exact h'
  · simp [World.cell?, Array.getElem?_eq_none h'] at h
/-- The ends as the walk asks for them. -/
theorem ends_of {H : Type} {enc : TypeId × Value → H} {W : World} {a0 : Option Addr} {len cap fuel : Nat} {x : DataW H × List MemPlace}
    (hf : DataW.trod enc Tryz.prog W 0 (fun _ => true) true fuel 34 [.slice a0 len cap] = some x) : Ends W a0 len := by
  rcases open_ints Tryz.underlying34 Tryz.underlying3 row_cells3 hf with ⟨hcs, hx⟩ | ⟨a, len', cap', zs, hcs, _, hl, hm, hz, hx, hcell, _⟩
  · simp only [List.cons.injEq, Value.slice.injEq, and_true] at hcs
    exact .inl hcs.2.1
  · simp only [List.cons.injEq, Value.slice.injEq, and_true] at hcs
    obtain ⟨rfl, rfl, rfl⟩ := hcs
    simp only [if_true] at hz
    by_cases h0 : len = 0
    · exact .inl h0
    · obtain ⟨b, off, spot⟩ := a
      have hspot : spot = none := by simpa [Addr.add] using World.cell?_spot (hcell 0 (by omega))
      subst hspot
      have hb := cell_blk (hcell 0 (by omega))
      refine .inr ⟨b, off, rfl, by simpa [Addr.add] using hb, fun j hj => ⟨zs.getD j 0, ?_⟩⟩
      rw [← add_plain]
      exact hcell j (by omega)
set_option maxRecDepth 100000 in
set_option maxHeartbeats 4000000 in
theorem fnEndsOfLinesAgree_lifted (os : Os) (started : os.Started) (H : Type) (enc : TypeId × Value → H) :
    ReturnsInHanded {} Tryz.checked os 6 .any (fun w args => (Rows.fnEndsOfLinesAgreeSpec.pre enc Tryz.prog Tryz.f6 [] false w args ∧ laidMetH Tryz.prog rowLaid w) ∧ sizedMet enc Tryz.prog Tryz.f6 (OpenSpec.ofChange Rows.fnEndsOfLinesAgreeSpec) false w args)
      (Rows.fnEndsOfLinesAgreeSpec.post enc Tryz.prog Tryz.f6 false true false false) := by
  refine returnsInHanded_of_change_and (C := Tryz.checked) (X := fun w _ => laidMetH Tryz.prog rowLaid w) (fun _ _ _ hh h => h.of_heap hh) row_own started (by kernel_rfl) Tryz.func6
    (ChangeSpec.witness_shaped (enc := enc) (C := Tryz.checked) (os := os) (X := fun w _ => laidMetH Tryz.prog rowLaid w) false (World.laidAll Tryz.prog os rowLaid) #[.string ⟨#[]⟩, .slice none 0 0] 8 (World.laidAll_os _ _ _)
      (World.shaped_of_ZipB (by kernel_rfl) (by kernel_rfl)) (by kernel_rfl) (by kernel_rfl) (by kernel_rfl)
      (by rw [MakeChecks.laidMetH_plain _ _ _ (by kernel_rfl)]; exact laidMet_laidAll _ (by kernel_rfl) (by kernel_rfl))) ?_
  intro W base args ds gs before hval0 hW _ _ hL _
  have hval : ∀ (j : Nat) t v, Tryz.f6.params[j]? = some t → args[j]? = some v → Value.okWide Tryz.prog W .any base t v := hval0
  have hW' := hW
  obtain ⟨p, q, hA0, hV, rfl, _, _⟩ := hW
  have hA : DataW.TrodAll enc Tryz.prog W 0 (fun _ => true) true Tryz.f6.params.toList args.toList ds p := hA0
  rw [Tryz.params6] at hA hval
  obtain ⟨v0, v1, d0, d1, p0, p1, rfl, rfl, rfl, h0, h1⟩ := trodAll_two hA
  obtain ⟨rfl, rfl⟩ := trodVars_none hV
  obtain ⟨x, rfl, rfl, rfl, wx⟩ := open_string Tryz.underlying9 (hval 0 9 v0 rfl rfl) h0
  obtain ⟨a0, len, cap, rfl⟩ := okWide_slice Tryz.underlying34 (hval 1 34 v1 rfl rfl)
  have h1k := h1
  obtain ⟨fuel, hf⟩ := h1
  simp only [List.append_nil, List.nil_append] at hW'
  have hlt : ∀ y ∈ p1, y.block < W.heap.size := fun y hy => by simpa using hW'.lt y (by simpa using hy)
  have hargs : ∀ (W' : World), Below W.heap.size W W' → DataW.Trod enc Tryz.prog W' 0 (fun b => decide (b < W.heap.size)) true 34 (.slice a0 len cap) d1 p1 :=
    fun W' hn => Below.trod row_out (by kernel_rfl) (of_decide_eq_true (by kernel_rfl)) h1k hn hlt
  have hE : Ends W a0 len := ends_of hf
  obtain ⟨hT, hsz⟩ := row_tabs hL
  refine (law6 x a0 len cap hE hsz hT).mono fun e W' ⟨he, hb⟩ => ?_
  subst he
  exact ⟨_, rfl, _, _, _, [], [] ++ p1, [], hW', trodAll_mk1 (shut_bool Tryz.underlying4 _), trodAll_mk2 (shut_string Tryz.underlying9 wx) (hargs _ hb), rfl, hb.frame _, fun h => by cases h⟩
theorem fnEndsOfLinesAgree_row : Rows.FnEndsOfLinesAgreeSaid :=
  OpenClaim.holds_of_wide 6 Tryz.f6 rfl rfl rfl rfl rfl rfl rfl ⟨rfl, rfl, rfl, rfl, rfl⟩ rfl rfl rfl rfl rfl (by kernel_rfl) Tryz.func6 (by kernel_rfl)
    (of_decide_eq_true (by kernel_rfl)) (by unfold Func.isWrapper; first | (rw [if_pos (by decide +kernel)]; kernel_rfl) | (rw [if_neg (by decide +kernel)]; exact ⟨rfl, rfl⟩))
    (fun os started H enc _ => fnEndsOfLinesAgree_lifted os started H enc)
theorem fnEndsOfLinesAgree_holds : Rows.FnEndsOfLinesAgreeCardSaid :=
  Claim7.holds_tied_plain_at .later [] [.data, .pinned] true (true, "5ce53b156f6caee86c7acbeb6c3048856fdf005f06424948b49a7f6c1eda1342") false
    fnEndsOfLinesAgree_row (fun _ h => by cases h) (by kernel_rfl) (fun _ h => by cases h) fnEndsOfLinesAgree_row_tie rfl ⟨rfl, rfl⟩ (by kernel_rfl) rfl
    (fun f fn hf hfn => by
      obtain rfl : f = 6 := Option.some.inj ((show Tryz.prog.funcNamed "sheettokens/laws.FnEndsOfLinesAgree" = some 6 by kernel_rfl).symm.trans hf) |>.symm
      obtain rfl : fn = Tryz.f6 := (Option.some.inj (Tryz.func6.symm.trans hfn)).symm
      exact ⟨by kernel_rfl, fun j t ht => by
        rw [Tryz.params6] at ht
        have hm : t ∈ [9, 34] := by simpa using Array.mem_of_getElem? ht
        have hall : ([9, 34].all fun u => !Tryz.prog.wantsStandIn u) = true := by kernel_rfl
        exact (show Tryz.prog.wantsStandIn t = false by simpa using List.all_eq_true.1 hall t hm)⟩)
    (by kernel_rfl)
#print axioms fnEndsOfLinesAgree_holds
end Go.Proofs.YtedckphklebndaaGreatDoor
