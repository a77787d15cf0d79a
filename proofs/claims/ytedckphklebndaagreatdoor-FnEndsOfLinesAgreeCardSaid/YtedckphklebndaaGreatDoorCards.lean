/-
  DERIVED. GIVEN WITH THE SEED: THE CARDS: each row of YtedckphklebndaaGreatDoorRows.lean that lists a variable, with what it lists TIED to the program's text (the seventh form; the later family's looks); each row that meets fmt, with fmt's text TOLD by the authors' own Lean function (tested against real Go, not proved from fmt's source: count such statements apart). THE CARD IS WHAT COUNTS. Prove the row's statement (the work); the ties are given (YtedckphklebndaaGreatDoorTie.lean); close each card by the builder's one call (the guide's Derived/Test/ToyasCard.lean, 'card_holds'). Laid BY PROGRAM, IN A SANDBOX (cutbox-door.mjs). By AI agents, Wed Nov 11 2026. No macro, syntax, notation, axiom, sorry.
-/
import Derived.Test.YtedckphklebndaaGreatDoorRows
import GoSem.ClaimSeven
namespace Go.Proofs.YtedckphklebndaaGreatDoor
namespace Rows

/-- THE TIED CARD OF 'laws.FnAloneIsTheSame'. -/
def fnAloneIsTheSameCard : Claim7 := { stood := { row := fnAloneIsTheSameRow, standIns := [], harness := (true, "5ce53b156f6caee86c7acbeb6c3048856fdf005f06424948b49a7f6c1eda1342"), looks := false }, kinds := [], alts := [], laidByText := true, laidKinds := [.data, .pinned], laidTests := true, laidLooks := .later }
def FnAloneIsTheSameCardSaid : Prop := Claim7.holds Tryz.pinned (.plain (OpenSpec.ofChange fnAloneIsTheSameSpec)) fnAloneIsTheSameCard

/-- THE TIED CARD OF 'laws.FnCommentParts'. -/
def fnCommentPartsCard : Claim7 := { stood := { row := fnCommentPartsRow, standIns := [], harness := (true, "5ce53b156f6caee86c7acbeb6c3048856fdf005f06424948b49a7f6c1eda1342"), looks := false }, kinds := [], alts := [], laidByText := true, laidKinds := [.data, .pinned], laidTests := true, laidLooks := .later }
def FnCommentPartsCardSaid : Prop := Claim7.holds Tryz.pinned (.plain (OpenSpec.ofChange fnCommentPartsSpec)) fnCommentPartsCard

/-- THE TIED CARD OF 'laws.FnCommentsBetween'. -/
def fnCommentsBetweenCard : Claim7 := { stood := { row := fnCommentsBetweenRow, standIns := [], harness := (true, "5ce53b156f6caee86c7acbeb6c3048856fdf005f06424948b49a7f6c1eda1342"), looks := false }, kinds := [], alts := [], laidByText := true, laidKinds := [.data, .pinned], laidTests := true, laidLooks := .later }
def FnCommentsBetweenCardSaid : Prop := Claim7.holds Tryz.pinned (.plain (OpenSpec.ofChange fnCommentsBetweenSpec)) fnCommentsBetweenCard

/-- THE TIED CARD OF 'laws.FnEndsOfLinesAgree'. -/
def fnEndsOfLinesAgreeCard : Claim7 := { stood := { row := fnEndsOfLinesAgreeRow, standIns := [], harness := (true, "5ce53b156f6caee86c7acbeb6c3048856fdf005f06424948b49a7f6c1eda1342"), looks := false }, kinds := [], alts := [], laidByText := true, laidKinds := [.data, .pinned], laidTests := true, laidLooks := .later }
def FnEndsOfLinesAgreeCardSaid : Prop := Claim7.holds Tryz.pinned (.plain (OpenSpec.ofChange fnEndsOfLinesAgreeSpec)) fnEndsOfLinesAgreeCard

/-- THE TIED CARD OF 'laws.FnSpacesOutside'. -/
def fnSpacesOutsideCard : Claim7 := { stood := { row := fnSpacesOutsideRow, standIns := [], harness := (true, "5ce53b156f6caee86c7acbeb6c3048856fdf005f06424948b49a7f6c1eda1342"), looks := false }, kinds := [], alts := [], laidByText := true, laidKinds := [.data, .pinned], laidTests := true, laidLooks := .later }
def FnSpacesOutsideCardSaid : Prop := Claim7.holds Tryz.pinned (.plain (OpenSpec.ofChange fnSpacesOutsideSpec)) fnSpacesOutsideCard

/-- THE TIED CARD OF 'laws.FnTokens'. -/
def fnTokensCard : Claim7 := { stood := { row := fnTokensRow, standIns := [], harness := (true, "5ce53b156f6caee86c7acbeb6c3048856fdf005f06424948b49a7f6c1eda1342"), looks := false }, kinds := [], alts := [], laidByText := true, laidKinds := [.data, .pinned], laidTests := true, laidLooks := .later }
def FnTokensCardSaid : Prop := Claim7.holds Tryz.pinned (.plain (OpenSpec.ofChange fnTokensSpec)) fnTokensCard

/-- THE SECOND FORM's CARD OF 'laws.FnAloneIsTheSame'. -/
def fnAloneIsTheSameUptoCard : Claim7 := { stood := { row := fnAloneIsTheSameUptoRow, standIns := [], harness := (true, "5ce53b156f6caee86c7acbeb6c3048856fdf005f06424948b49a7f6c1eda1342"), looks := false }, kinds := [], alts := [], laidByText := true, laidKinds := [.data, .pinned], laidTests := true, laidLooks := .later }
def FnAloneIsTheSameUptoCardSaid : Prop := Claim7.holds Tryz.pinned (.plain (OpenSpec.upto fnAloneIsTheSameSpec)) fnAloneIsTheSameUptoCard

/-- THE SECOND FORM's CARD OF 'laws.FnCommentParts'. -/
def fnCommentPartsUptoCard : Claim7 := { stood := { row := fnCommentPartsUptoRow, standIns := [], harness := (true, "5ce53b156f6caee86c7acbeb6c3048856fdf005f06424948b49a7f6c1eda1342"), looks := false }, kinds := [], alts := [], laidByText := true, laidKinds := [.data, .pinned], laidTests := true, laidLooks := .later }
def FnCommentPartsUptoCardSaid : Prop := Claim7.holds Tryz.pinned (.plain (OpenSpec.upto fnCommentPartsSpec)) fnCommentPartsUptoCard

/-- THE SECOND FORM's CARD OF 'laws.FnCommentsBetween'. -/
def fnCommentsBetweenUptoCard : Claim7 := { stood := { row := fnCommentsBetweenUptoRow, standIns := [], harness := (true, "5ce53b156f6caee86c7acbeb6c3048856fdf005f06424948b49a7f6c1eda1342"), looks := false }, kinds := [], alts := [], laidByText := true, laidKinds := [.data, .pinned], laidTests := true, laidLooks := .later }
def FnCommentsBetweenUptoCardSaid : Prop := Claim7.holds Tryz.pinned (.plain (OpenSpec.upto fnCommentsBetweenSpec)) fnCommentsBetweenUptoCard

/-- THE SECOND FORM's CARD OF 'laws.FnEndsOfLinesAgree'. -/
def fnEndsOfLinesAgreeUptoCard : Claim7 := { stood := { row := fnEndsOfLinesAgreeUptoRow, standIns := [], harness := (true, "5ce53b156f6caee86c7acbeb6c3048856fdf005f06424948b49a7f6c1eda1342"), looks := false }, kinds := [], alts := [], laidByText := true, laidKinds := [.data, .pinned], laidTests := true, laidLooks := .later }
def FnEndsOfLinesAgreeUptoCardSaid : Prop := Claim7.holds Tryz.pinned (.plain (OpenSpec.upto fnEndsOfLinesAgreeSpec)) fnEndsOfLinesAgreeUptoCard

/-- THE SECOND FORM's CARD OF 'laws.FnSpacesOutside'. -/
def fnSpacesOutsideUptoCard : Claim7 := { stood := { row := fnSpacesOutsideUptoRow, standIns := [], harness := (true, "5ce53b156f6caee86c7acbeb6c3048856fdf005f06424948b49a7f6c1eda1342"), looks := false }, kinds := [], alts := [], laidByText := true, laidKinds := [.data, .pinned], laidTests := true, laidLooks := .later }
def FnSpacesOutsideUptoCardSaid : Prop := Claim7.holds Tryz.pinned (.plain (OpenSpec.upto fnSpacesOutsideSpec)) fnSpacesOutsideUptoCard

/-- THE SECOND FORM's CARD OF 'laws.FnTokens'. -/
def fnTokensUptoCard : Claim7 := { stood := { row := fnTokensUptoRow, standIns := [], harness := (true, "5ce53b156f6caee86c7acbeb6c3048856fdf005f06424948b49a7f6c1eda1342"), looks := false }, kinds := [], alts := [], laidByText := true, laidKinds := [.data, .pinned], laidTests := true, laidLooks := .later }
def FnTokensUptoCardSaid : Prop := Claim7.holds Tryz.pinned (.plain (OpenSpec.upto fnTokensSpec)) fnTokensUptoCard
end Rows
end Go.Proofs.YtedckphklebndaaGreatDoor
