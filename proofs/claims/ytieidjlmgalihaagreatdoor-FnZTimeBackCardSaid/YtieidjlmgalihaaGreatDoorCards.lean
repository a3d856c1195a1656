/-
  DERIVED. GIVEN WITH THE SEED: THE CARDS: each row of YtieidjlmgalihaaGreatDoorRows.lean that lists a variable, with what it lists TIED to the program's text (the seventh form; the later family's looks); each row that meets fmt, with fmt's text TOLD by the authors' own Lean function (tested against real Go, not proved from fmt's source: count such statements apart). THE CARD IS WHAT COUNTS. Prove the row's statement (the work); the ties are given (YtieidjlmgalihaaGreatDoorTie.lean); close each card by the builder's one call (the guide's Derived/Test/ToyasCard.lean, 'card_holds'). Laid BY PROGRAM, IN A SANDBOX (cutbox-door.mjs). By AI agents, Wed Nov 11 2026. No macro, syntax, notation, axiom, sorry.
-/
import Derived.Test.YtieidjlmgalihaaGreatDoorRows
import GoSem.ClaimSeven
namespace Go.Proofs.YtieidjlmgalihaaGreatDoor
namespace Rows

/-- THE TIED CARD OF 'laws.FnZTimeBack'. -/
def fnZTimeBackCard : Claim7 := { stood := { row := fnZTimeBackRow, standIns := [], harness := (true, "b57ad03a2616c8b8be724a553a6013d821cdcb11c2b7f36783c85c48deaa94c3"), looks := true }, kinds := [], alts := [], laidByText := true, laidKinds := [.data, .data, .data, .data, .data, .data, .data, .pinned], laidTests := true, laidLooks := .later }
def FnZTimeBackCardSaid : Prop := Claim7.holds Tryz.pinned (.plain (OpenSpec.ofChange fnZTimeBackSpec)) fnZTimeBackCard

/-- THE TIED CARD OF 'laws.FnZEquals'. -/
def fnZEqualsCard : Claim7 := { stood := { row := fnZEqualsRow, standIns := [], harness := (true, "b57ad03a2616c8b8be724a553a6013d821cdcb11c2b7f36783c85c48deaa94c3"), looks := true }, kinds := [], alts := [], laidByText := true, laidKinds := [.data, .data, .data, .data, .data, .data], laidTests := true, laidLooks := .later }
def FnZEqualsCardSaid : Prop := Claim7.holds Tryz.pinned (.plain (OpenSpec.ofChange fnZEqualsSpec)) fnZEqualsCard

/-- THE TIED CARD OF 'laws.FnZTold'. -/
def fnZToldCard : Claim7 := { stood := { row := fnZToldRow, standIns := [], harness := (true, "b57ad03a2616c8b8be724a553a6013d821cdcb11c2b7f36783c85c48deaa94c3"), looks := true }, kinds := [], alts := [], laidByText := true, laidKinds := [.data, .data, .data, .data, .data, .data], laidTests := true, laidLooks := .later }
def FnZToldCardSaid : Prop := Claim7.holds Tryz.pinned (.plain (OpenSpec.ofChange fnZToldSpec)) fnZToldCard

/-- THE TIED CARD OF 'laws.FnZIO'. -/
def fnZIOCard : Claim7 := { stood := { row := fnZIORow, standIns := [], harness := (true, "b57ad03a2616c8b8be724a553a6013d821cdcb11c2b7f36783c85c48deaa94c3"), looks := true }, kinds := [], alts := [], laidByText := true, laidKinds := [.data, .data, .data, .data, .data, .data, .sentinel], laidTests := true, laidLooks := .later }
def FnZIOCardSaid : Prop := Claim7.holds Tryz.pinned (.plain (OpenSpec.ofChange fnZIOSpec)) fnZIOCard

/-- THE TIED CARD OF 'laws.FnZIOParts'. -/
def fnZIOPartsCard : Claim7 := { stood := { row := fnZIOPartsRow, standIns := [], harness := (true, "b57ad03a2616c8b8be724a553a6013d821cdcb11c2b7f36783c85c48deaa94c3"), looks := true }, kinds := [], alts := [], laidByText := true, laidKinds := [.data, .data, .data, .data, .data, .data, .sentinel], laidTests := true, laidLooks := .later }
def FnZIOPartsCardSaid : Prop := Claim7.holds Tryz.pinned (.plain (OpenSpec.ofChange fnZIOPartsSpec)) fnZIOPartsCard

/-- THE TIED CARD OF 'laws.FnZHooked'. -/
def fnZHookedCard : Claim7 := { stood := { row := fnZHookedRow, standIns := [], harness := (true, "b57ad03a2616c8b8be724a553a6013d821cdcb11c2b7f36783c85c48deaa94c3"), looks := true }, kinds := [], alts := [], laidByText := true, laidKinds := [.data, .data, .data, .data, .data, .data], laidTests := true, laidLooks := .later }
def FnZHookedCardSaid : Prop := Claim7.holds Tryz.pinned (.plain (OpenSpec.ofChange fnZHookedSpec)) fnZHookedCard

/-- THE TIED CARD OF 'laws.FnZIncreases'. -/
def fnZIncreasesCard : Claim7 := { stood := { row := fnZIncreasesRow, standIns := [], harness := (true, "b57ad03a2616c8b8be724a553a6013d821cdcb11c2b7f36783c85c48deaa94c3"), looks := true }, kinds := [], alts := [], laidByText := true, laidKinds := [.data, .data, .data, .data, .data, .data], laidTests := true, laidLooks := .later }
def FnZIncreasesCardSaid : Prop := Claim7.holds Tryz.pinned (.plain (OpenSpec.ofChange fnZIncreasesSpec)) fnZIncreasesCard

/-- THE TIED CARD OF 'laws.FnZTees'. -/
def fnZTeesCard : Claim7 := { stood := { row := fnZTeesRow, standIns := [], harness := (true, "b57ad03a2616c8b8be724a553a6013d821cdcb11c2b7f36783c85c48deaa94c3"), looks := true }, kinds := [], alts := [], laidByText := true, laidKinds := [.data, .data, .data, .data, .data, .data], laidTests := true, laidLooks := .later }
def FnZTeesCardSaid : Prop := Claim7.holds Tryz.pinned (.plain (OpenSpec.ofChange fnZTeesSpec)) fnZTeesCard

/-- THE TIED CARD OF 'laws.FnZWithTwice'. -/
def fnZWithTwiceCard : Claim7 := { stood := { row := fnZWithTwiceRow, standIns := [], harness := (true, "b57ad03a2616c8b8be724a553a6013d821cdcb11c2b7f36783c85c48deaa94c3"), looks := true }, kinds := [], alts := [], laidByText := true, laidKinds := [.data, .data, .data, .data, .data, .data], laidTests := true, laidLooks := .later }
def FnZWithTwiceCardSaid : Prop := Claim7.holds Tryz.pinned (.plain (OpenSpec.ofChange fnZWithTwiceSpec)) fnZWithTwiceCard

/-- THE TIED CARD OF 'laws.FnZObserves'. -/
def fnZObservesCard : Claim7 := { stood := { row := fnZObservesRow, standIns := [], harness := (true, "b57ad03a2616c8b8be724a553a6013d821cdcb11c2b7f36783c85c48deaa94c3"), looks := true }, kinds := [], alts := [], laidByText := true, laidKinds := [.data, .data, .data, .data, .data, .data], laidTests := true, laidLooks := .later }
def FnZObservesCardSaid : Prop := Claim7.holds Tryz.pinned (.plain (OpenSpec.ofChange fnZObservesSpec)) fnZObservesCard

/-- THE SECOND FORM's CARD OF 'laws.FnZTimeBack'. -/
def fnZTimeBackUptoCard : Claim7 := { stood := { row := fnZTimeBackUptoRow, standIns := [], harness := (true, "b57ad03a2616c8b8be724a553a6013d821cdcb11c2b7f36783c85c48deaa94c3"), looks := true }, kinds := [], alts := [], laidByText := true, laidKinds := [.data, .data, .data, .data, .data, .data, .data, .pinned], laidTests := true, laidLooks := .later }
def FnZTimeBackUptoCardSaid : Prop := Claim7.holds Tryz.pinned (.plain (OpenSpec.upto fnZTimeBackSpec)) fnZTimeBackUptoCard

/-- THE SECOND FORM's CARD OF 'laws.FnZEquals'. -/
def fnZEqualsUptoCard : Claim7 := { stood := { row := fnZEqualsUptoRow, standIns := [], harness := (true, "b57ad03a2616c8b8be724a553a6013d821cdcb11c2b7f36783c85c48deaa94c3"), looks := true }, kinds := [], alts := [], laidByText := true, laidKinds := [.data, .data, .data, .data, .data, .data], laidTests := true, laidLooks := .later }
def FnZEqualsUptoCardSaid : Prop := Claim7.holds Tryz.pinned (.plain (OpenSpec.upto fnZEqualsSpec)) fnZEqualsUptoCard

/-- THE SECOND FORM's CARD OF 'laws.FnZTold'. -/
def fnZToldUptoCard : Claim7 := { stood := { row := fnZToldUptoRow, standIns := [], harness := (true, "b57ad03a2616c8b8be724a553a6013d821cdcb11c2b7f36783c85c48deaa94c3"), looks := true }, kinds := [], alts := [], laidByText := true, laidKinds := [.data, .data, .data, .data, .data, .data], laidTests := true, laidLooks := .later }
def FnZToldUptoCardSaid : Prop := Claim7.holds Tryz.pinned (.plain (OpenSpec.upto fnZToldSpec)) fnZToldUptoCard

/-- THE SECOND FORM's CARD OF 'laws.FnZIO'. -/
def fnZIOUptoCard : Claim7 := { stood := { row := fnZIOUptoRow, standIns := [], harness := (true, "b57ad03a2616c8b8be724a553a6013d821cdcb11c2b7f36783c85c48deaa94c3"), looks := true }, kinds := [], alts := [], laidByText := true, laidKinds := [.data, .data, .data, .data, .data, .data, .sentinel], laidTests := true, laidLooks := .later }
def FnZIOUptoCardSaid : Prop := Claim7.holds Tryz.pinned (.plain (OpenSpec.upto fnZIOSpec)) fnZIOUptoCard

/-- THE SECOND FORM's CARD OF 'laws.FnZIOParts'. -/
def fnZIOPartsUptoCard : Claim7 := { stood := { row := fnZIOPartsUptoRow, standIns := [], harness := (true, "b57ad03a2616c8b8be724a553a6013d821cdcb11c2b7f36783c85c48deaa94c3"), looks := true }, kinds := [], alts := [], laidByText := true, laidKinds := [.data, .data, .data, .data, .data, .data, .sentinel], laidTests := true, laidLooks := .later }
def FnZIOPartsUptoCardSaid : Prop := Claim7.holds Tryz.pinned (.plain (OpenSpec.upto fnZIOPartsSpec)) fnZIOPartsUptoCard

/-- THE SECOND FORM's CARD OF 'laws.FnZHooked'. -/
def fnZHookedUptoCard : Claim7 := { stood := { row := fnZHookedUptoRow, standIns := [], harness := (true, "b57ad03a2616c8b8be724a553a6013d821cdcb11c2b7f36783c85c48deaa94c3"), looks := true }, kinds := [], alts := [], laidByText := true, laidKinds := [.data, .data, .data, .data, .data, .data], laidTests := true, laidLooks := .later }
def FnZHookedUptoCardSaid : Prop := Claim7.holds Tryz.pinned (.plain (OpenSpec.upto fnZHookedSpec)) fnZHookedUptoCard

/-- THE SECOND FORM's CARD OF 'laws.FnZIncreases'. -/
def fnZIncreasesUptoCard : Claim7 := { stood := { row := fnZIncreasesUptoRow, standIns := [], harness := (true, "b57ad03a2616c8b8be724a553a6013d821cdcb11c2b7f36783c85c48deaa94c3"), looks := true }, kinds := [], alts := [], laidByText := true, laidKinds := [.data, .data, .data, .data, .data, .data], laidTests := true, laidLooks := .later }
def FnZIncreasesUptoCardSaid : Prop := Claim7.holds Tryz.pinned (.plain (OpenSpec.upto fnZIncreasesSpec)) fnZIncreasesUptoCard

/-- THE SECOND FORM's CARD OF 'laws.FnZTees'. -/
def fnZTeesUptoCard : Claim7 := { stood := { row := fnZTeesUptoRow, standIns := [], harness := (true, "b57ad03a2616c8b8be724a553a6013d821cdcb11c2b7f36783c85c48deaa94c3"), looks := true }, kinds := [], alts := [], laidByText := true, laidKinds := [.data, .data, .data, .data, .data, .data], laidTests := true, laidLooks := .later }
def FnZTeesUptoCardSaid : Prop := Claim7.holds Tryz.pinned (.plain (OpenSpec.upto fnZTeesSpec)) fnZTeesUptoCard

/-- THE SECOND FORM's CARD OF 'laws.FnZWithTwice'. -/
def fnZWithTwiceUptoCard : Claim7 := { stood := { row := fnZWithTwiceUptoRow, standIns := [], harness := (true, "b57ad03a2616c8b8be724a553a6013d821cdcb11c2b7f36783c85c48deaa94c3"), looks := true }, kinds := [], alts := [], laidByText := true, laidKinds := [.data, .data, .data, .data, .data, .data], laidTests := true, laidLooks := .later }
def FnZWithTwiceUptoCardSaid : Prop := Claim7.holds Tryz.pinned (.plain (OpenSpec.upto fnZWithTwiceSpec)) fnZWithTwiceUptoCard

/-- THE SECOND FORM's CARD OF 'laws.FnZObserves'. -/
def fnZObservesUptoCard : Claim7 := { stood := { row := fnZObservesUptoRow, standIns := [], harness := (true, "b57ad03a2616c8b8be724a553a6013d821cdcb11c2b7f36783c85c48deaa94c3"), looks := true }, kinds := [], alts := [], laidByText := true, laidKinds := [.data, .data, .data, .data, .data, .data], laidTests := true, laidLooks := .later }
def FnZObservesUptoCardSaid : Prop := Claim7.holds Tryz.pinned (.plain (OpenSpec.upto fnZObservesSpec)) fnZObservesUptoCard
end Rows
end Go.Proofs.YtieidjlmgalihaaGreatDoor
