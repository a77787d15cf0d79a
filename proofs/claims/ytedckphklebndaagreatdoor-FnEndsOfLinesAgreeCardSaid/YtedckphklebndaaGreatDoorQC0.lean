/- What the rows of the statements share: the listed tables lie in blocks 0 and 1. Conditions: the row's own. -/
import Derived.Test.YtedckphklebndaaGreatDoorQM2
import Derived.Test.YtedckphklebndaaGreatDoorRows
import Derived.ProofKit
import Derived.ChangeMaps
import Derived.PinnedBridge
import Derived.Lay
import Derived.LaidOnce
namespace Go.Proofs.YtedckphklebndaaGreatDoor
open Go Go.RowKit Go.ChangeShapes Go.WideShapes Go.ChangeAt Go.Lib
theorem row_own : ownKnob Tryz.prog.godebug = none := by kernel_rfl
theorem row_u8 : U8Extra Tryz.prog Tryz.lays197_ren := ⟨by kernel_rfl, by kernel_rfl, by kernel_rfl, by kernel_rfl, by kernel_rfl, by kernel_rfl, by kernel_rfl⟩
def rowLaid : List (String × DataW Unit) := [("unicode/utf8.acceptRanges", Rows.laid_unicode_utf8_acceptRanges), ("unicode/utf8.first", Rows.laid_unicode_utf8_first)]
theorem row_acc : (Rows.laid_unicode_utf8_acceptRanges : DataW Unit) = acceptData := by kernel_rfl
/-- What the row lists is what the walks ask. -/
theorem row_tabs {W : World} (hL : laidMetH Tryz.prog rowLaid W) : Lib.Utf8Tabs 0 1 W ∧ 2 ≤ W.heap.size := by
  rw [MakeChecks.laidMetH_plain _ _ _ (by kernel_rfl)] at hL
  have h4 := Lib.laidMet.reads hL (.head _)
  have h3 := Lib.laidMet.reads hL (.tail _ (.head _))
  rw [row_acc] at h4
  have hT : Lib.Utf8Tabs 0 1 W := utf8Tabs_of_reads { Tryz.lays197 with } row_u8 (Pinned.utf8First_eq ▸ h3) h4
  refine ⟨hT, ?_⟩
  have h := (hT.2 0 (by decide)).1
  have hlt : 1 < W.heap.size := by
    rcases Nat.lt_or_ge 1 W.heap.size with h' | h'
    · exact h'
    · simp [World.cell?, Array.getElem?_eq_none h'] at h
  omega
end Go.Proofs.YtedckphklebndaaGreatDoor
