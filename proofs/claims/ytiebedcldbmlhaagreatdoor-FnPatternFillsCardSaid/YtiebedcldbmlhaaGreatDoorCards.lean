/-
  DERIVED. GIVEN WITH THE SEED: THE CARDS: each row of YtiebedcldbmlhaaGreatDoorRows.lean that lists a variable, with what it lists TIED to the program's text (the seventh form; the later family's looks); each row that meets fmt, with fmt's text TOLD by the authors' own Lean function (tested against real Go, not proved from fmt's source: count such statements apart). THE CARD IS WHAT COUNTS. Prove the row's statement (the work); the ties are given (YtiebedcldbmlhaaGreatDoorTie.lean); close each card by the builder's one call (the guide's Derived/Test/ToyasCard.lean, 'card_holds'). Laid BY PROGRAM, IN A SANDBOX (cutbox-door.mjs). By AI agents, Wed Nov 11 2026. No macro, syntax, notation, axiom, sorry.
-/
import Derived.Test.YtiebedcldbmlhaaGreatDoorRows
import GoSem.ClaimSeven
namespace Go.Proofs.YtiebedcldbmlhaaGreatDoor
namespace Rows

/-- THE TIED CARD OF 'laws.FnPatternMade'. -/
def fnPatternMadeCard : Claim7 := { stood := { row := fnPatternMadeRow, standIns := [], harness := (true, "4f73cac873a9e1a5711308c22dd27e8b54ca01534a6456cbe81142bad7fe43d3"), looks := true }, kinds := [], alts := [], laidByText := true, laidKinds := [.data, .data, .widerDeep, .widerDeep, .data, .data, .data, .data, .data, .sentinel, .sentinel, .data, .pinned, .pinned, .pinned], laidTests := true, laidLooks := .later }
def FnPatternMadeCardSaid : Prop := Claim7.holds Tryz.pinned (.plain (OpenSpec.ofChange fnPatternMadeSpec)) fnPatternMadeCard

/-- THE TIED CARD OF 'laws.FnPatternOptional'. -/
def fnPatternOptionalCard : Claim7 := { stood := { row := fnPatternOptionalRow, standIns := [], harness := (true, "4f73cac873a9e1a5711308c22dd27e8b54ca01534a6456cbe81142bad7fe43d3"), looks := true }, kinds := [], alts := [], laidByText := true, laidKinds := [.data, .data, .widerDeep, .widerDeep, .data, .data, .data, .data, .data, .sentinel, .sentinel, .data, .pinned, .pinned, .pinned], laidTests := true, laidLooks := .later }
def FnPatternOptionalCardSaid : Prop := Claim7.holds Tryz.pinned (.plain (OpenSpec.ofChange fnPatternOptionalSpec)) fnPatternOptionalCard

/-- THE TIED CARD OF 'laws.FnPatternOther'. -/
def fnPatternOtherCard : Claim7 := { stood := { row := fnPatternOtherRow, standIns := [], harness := (true, "4f73cac873a9e1a5711308c22dd27e8b54ca01534a6456cbe81142bad7fe43d3"), looks := true }, kinds := [], alts := [], laidByText := true, laidKinds := [.data, .data, .widerDeep, .widerDeep, .data, .data, .data, .data, .data, .sentinel, .sentinel, .data, .pinned, .pinned, .pinned], laidTests := true, laidLooks := .later }
def FnPatternOtherCardSaid : Prop := Claim7.holds Tryz.pinned (.plain (OpenSpec.ofChange fnPatternOtherSpec)) fnPatternOtherCard

/-- THE TIED CARD OF 'laws.FnPatternPart'. -/
def fnPatternPartCard : Claim7 := { stood := { row := fnPatternPartRow, standIns := [], harness := (true, "4f73cac873a9e1a5711308c22dd27e8b54ca01534a6456cbe81142bad7fe43d3"), looks := true }, kinds := [], alts := [], laidByText := true, laidKinds := [.data, .data, .widerDeep, .widerDeep, .data, .data, .data, .data, .data, .sentinel, .sentinel, .data, .pinned, .pinned, .pinned], laidTests := true, laidLooks := .later }
def FnPatternPartCardSaid : Prop := Claim7.holds Tryz.pinned (.plain (OpenSpec.ofChange fnPatternPartSpec)) fnPatternPartCard

/-- THE TIED CARD OF 'laws.FnPatternRest'. -/
def fnPatternRestCard : Claim7 := { stood := { row := fnPatternRestRow, standIns := [], harness := (true, "4f73cac873a9e1a5711308c22dd27e8b54ca01534a6456cbe81142bad7fe43d3"), looks := true }, kinds := [], alts := [], laidByText := true, laidKinds := [.data, .data, .widerDeep, .widerDeep, .data, .data, .data, .data, .data, .sentinel, .sentinel, .data, .pinned, .pinned, .pinned], laidTests := true, laidLooks := .later }
def FnPatternRestCardSaid : Prop := Claim7.holds Tryz.pinned (.plain (OpenSpec.ofChange fnPatternRestSpec)) fnPatternRestCard

/-- THE TIED CARD OF 'laws.FnPatternChecked'. -/
def fnPatternCheckedCard : Claim7 := { stood := { row := fnPatternCheckedRow, standIns := [], harness := (true, "4f73cac873a9e1a5711308c22dd27e8b54ca01534a6456cbe81142bad7fe43d3"), looks := true }, kinds := [], alts := [], laidByText := true, laidKinds := [.data, .data, .widerDeep, .widerDeep, .data, .data, .data, .data, .data, .sentinel, .sentinel, .data, .pinned, .pinned, .pinned], laidTests := true, laidLooks := .later }
def FnPatternCheckedCardSaid : Prop := Claim7.holds Tryz.pinned (.plain (OpenSpec.ofChange fnPatternCheckedSpec)) fnPatternCheckedCard

/-- THE TIED CARD OF 'laws.FnPatternFills'. -/
def fnPatternFillsCard : Claim7 := { stood := { row := fnPatternFillsRow, standIns := [], harness := (true, "4f73cac873a9e1a5711308c22dd27e8b54ca01534a6456cbe81142bad7fe43d3"), looks := true }, kinds := [], alts := [], laidByText := true, laidKinds := [.data, .data, .widerDeep, .widerDeep, .data, .data, .data, .data, .data, .sentinel, .sentinel, .data, .pinned, .pinned, .pinned], laidTests := true, laidLooks := .later }
def FnPatternFillsCardSaid : Prop := Claim7.holds Tryz.pinned (.plain (OpenSpec.ofChange fnPatternFillsSpec)) fnPatternFillsCard

/-- THE TIED CARD OF 'laws.FnPatternNames'. -/
def fnPatternNamesCard : Claim7 := { stood := { row := fnPatternNamesRow, standIns := [], harness := (true, "4f73cac873a9e1a5711308c22dd27e8b54ca01534a6456cbe81142bad7fe43d3"), looks := true }, kinds := [], alts := [], laidByText := true, laidKinds := [.data, .data, .widerDeep, .widerDeep, .data, .data, .data, .data, .data, .sentinel, .sentinel, .data, .pinned, .pinned, .pinned], laidTests := true, laidLooks := .later }
def FnPatternNamesCardSaid : Prop := Claim7.holds Tryz.pinned (.plain (OpenSpec.ofChange fnPatternNamesSpec)) fnPatternNamesCard

/-- THE TIED CARD OF 'laws.FnSegmentsSay'. -/
def fnSegmentsSayCard : Claim7 := { stood := { row := fnSegmentsSayRow, standIns := [], harness := (true, "4f73cac873a9e1a5711308c22dd27e8b54ca01534a6456cbe81142bad7fe43d3"), looks := true }, kinds := [], alts := [], laidByText := true, laidKinds := [.data, .data, .widerDeep, .widerDeep, .data, .data, .data, .data, .data, .sentinel, .sentinel, .data, .pinned, .pinned, .pinned], laidTests := true, laidLooks := .later }
def FnSegmentsSayCardSaid : Prop := Claim7.holds Tryz.pinned (.plain (OpenSpec.ofChange fnSegmentsSaySpec)) fnSegmentsSayCard

/-- THE TIED CARD OF 'laws.FnMatchesFolded'. -/
def fnMatchesFoldedCard : Claim7 := { stood := { row := fnMatchesFoldedRow, standIns := [], harness := (true, "4f73cac873a9e1a5711308c22dd27e8b54ca01534a6456cbe81142bad7fe43d3"), looks := true }, kinds := [], alts := [], laidByText := true, laidKinds := [.data, .data, .widerDeep, .widerDeep, .data, .data, .data, .data, .data, .sentinel, .sentinel, .data, .pinned, .pinned, .pinned], laidTests := true, laidLooks := .later }
def FnMatchesFoldedCardSaid : Prop := Claim7.holds Tryz.pinned (.plain (OpenSpec.ofChange fnMatchesFoldedSpec)) fnMatchesFoldedCard

/-- THE TIED CARD OF 'laws.FnMatchesValues'. -/
def fnMatchesValuesCard : Claim7 := { stood := { row := fnMatchesValuesRow, standIns := [], harness := (true, "4f73cac873a9e1a5711308c22dd27e8b54ca01534a6456cbe81142bad7fe43d3"), looks := true }, kinds := [], alts := [], laidByText := true, laidKinds := [.data, .data, .widerDeep, .widerDeep, .data, .data, .data, .data, .data, .sentinel, .sentinel, .data, .pinned, .pinned, .pinned], laidTests := true, laidLooks := .later }
def FnMatchesValuesCardSaid : Prop := Claim7.holds Tryz.pinned (.plain (OpenSpec.ofChange fnMatchesValuesSpec)) fnMatchesValuesCard

/-- THE SECOND FORM's CARD OF 'laws.FnPatternMade'. -/
def fnPatternMadeUptoCard : Claim7 := { stood := { row := fnPatternMadeUptoRow, standIns := [], harness := (true, "4f73cac873a9e1a5711308c22dd27e8b54ca01534a6456cbe81142bad7fe43d3"), looks := true }, kinds := [], alts := [], laidByText := true, laidKinds := [.data, .data, .widerDeep, .widerDeep, .data, .data, .data, .data, .data, .sentinel, .sentinel, .data, .pinned, .pinned, .pinned], laidTests := true, laidLooks := .later }
def FnPatternMadeUptoCardSaid : Prop := Claim7.holds Tryz.pinned (.plain (OpenSpec.upto fnPatternMadeSpec)) fnPatternMadeUptoCard

/-- THE SECOND FORM's CARD OF 'laws.FnPatternOptional'. -/
def fnPatternOptionalUptoCard : Claim7 := { stood := { row := fnPatternOptionalUptoRow, standIns := [], harness := (true, "4f73cac873a9e1a5711308c22dd27e8b54ca01534a6456cbe81142bad7fe43d3"), looks := true }, kinds := [], alts := [], laidByText := true, laidKinds := [.data, .data, .widerDeep, .widerDeep, .data, .data, .data, .data, .data, .sentinel, .sentinel, .data, .pinned, .pinned, .pinned], laidTests := true, laidLooks := .later }
def FnPatternOptionalUptoCardSaid : Prop := Claim7.holds Tryz.pinned (.plain (OpenSpec.upto fnPatternOptionalSpec)) fnPatternOptionalUptoCard

/-- THE SECOND FORM's CARD OF 'laws.FnPatternOther'. -/
def fnPatternOtherUptoCard : Claim7 := { stood := { row := fnPatternOtherUptoRow, standIns := [], harness := (true, "4f73cac873a9e1a5711308c22dd27e8b54ca01534a6456cbe81142bad7fe43d3"), looks := true }, kinds := [], alts := [], laidByText := true, laidKinds := [.data, .data, .widerDeep, .widerDeep, .data, .data, .data, .data, .data, .sentinel, .sentinel, .data, .pinned, .pinned, .pinned], laidTests := true, laidLooks := .later }
def FnPatternOtherUptoCardSaid : Prop := Claim7.holds Tryz.pinned (.plain (OpenSpec.upto fnPatternOtherSpec)) fnPatternOtherUptoCard

/-- THE SECOND FORM's CARD OF 'laws.FnPatternPart'. -/
def fnPatternPartUptoCard : Claim7 := { stood := { row := fnPatternPartUptoRow, standIns := [], harness := (true, "4f73cac873a9e1a5711308c22dd27e8b54ca01534a6456cbe81142bad7fe43d3"), looks := true }, kinds := [], alts := [], laidByText := true, laidKinds := [.data, .data, .widerDeep, .widerDeep, .data, .data, .data, .data, .data, .sentinel, .sentinel, .data, .pinned, .pinned, .pinned], laidTests := true, laidLooks := .later }
def FnPatternPartUptoCardSaid : Prop := Claim7.holds Tryz.pinned (.plain (OpenSpec.upto fnPatternPartSpec)) fnPatternPartUptoCard

/-- THE SECOND FORM's CARD OF 'laws.FnPatternRest'. -/
def fnPatternRestUptoCard : Claim7 := { stood := { row := fnPatternRestUptoRow, standIns := [], harness := (true, "4f73cac873a9e1a5711308c22dd27e8b54ca01534a6456cbe81142bad7fe43d3"), looks := true }, kinds := [], alts := [], laidByText := true, laidKinds := [.data, .data, .widerDeep, .widerDeep, .data, .data, .data, .data, .data, .sentinel, .sentinel, .data, .pinned, .pinned, .pinned], laidTests := true, laidLooks := .later }
def FnPatternRestUptoCardSaid : Prop := Claim7.holds Tryz.pinned (.plain (OpenSpec.upto fnPatternRestSpec)) fnPatternRestUptoCard

/-- THE SECOND FORM's CARD OF 'laws.FnPatternChecked'. -/
def fnPatternCheckedUptoCard : Claim7 := { stood := { row := fnPatternCheckedUptoRow, standIns := [], harness := (true, "4f73cac873a9e1a5711308c22dd27e8b54ca01534a6456cbe81142bad7fe43d3"), looks := true }, kinds := [], alts := [], laidByText := true, laidKinds := [.data, .data, .widerDeep, .widerDeep, .data, .data, .data, .data, .data, .sentinel, .sentinel, .data, .pinned, .pinned, .pinned], laidTests := true, laidLooks := .later }
def FnPatternCheckedUptoCardSaid : Prop := Claim7.holds Tryz.pinned (.plain (OpenSpec.upto fnPatternCheckedSpec)) fnPatternCheckedUptoCard

/-- THE SECOND FORM's CARD OF 'laws.FnPatternFills'. -/
def fnPatternFillsUptoCard : Claim7 := { stood := { row := fnPatternFillsUptoRow, standIns := [], harness := (true, "4f73cac873a9e1a5711308c22dd27e8b54ca01534a6456cbe81142bad7fe43d3"), looks := true }, kinds := [], alts := [], laidByText := true, laidKinds := [.data, .data, .widerDeep, .widerDeep, .data, .data, .data, .data, .data, .sentinel, .sentinel, .data, .pinned, .pinned, .pinned], laidTests := true, laidLooks := .later }
def FnPatternFillsUptoCardSaid : Prop := Claim7.holds Tryz.pinned (.plain (OpenSpec.upto fnPatternFillsSpec)) fnPatternFillsUptoCard

/-- THE SECOND FORM's CARD OF 'laws.FnPatternNames'. -/
def fnPatternNamesUptoCard : Claim7 := { stood := { row := fnPatternNamesUptoRow, standIns := [], harness := (true, "4f73cac873a9e1a5711308c22dd27e8b54ca01534a6456cbe81142bad7fe43d3"), looks := true }, kinds := [], alts := [], laidByText := true, laidKinds := [.data, .data, .widerDeep, .widerDeep, .data, .data, .data, .data, .data, .sentinel, .sentinel, .data, .pinned, .pinned, .pinned], laidTests := true, laidLooks := .later }
def FnPatternNamesUptoCardSaid : Prop := Claim7.holds Tryz.pinned (.plain (OpenSpec.upto fnPatternNamesSpec)) fnPatternNamesUptoCard

/-- THE SECOND FORM's CARD OF 'laws.FnSegmentsSay'. -/
def fnSegmentsSayUptoCard : Claim7 := { stood := { row := fnSegmentsSayUptoRow, standIns := [], harness := (true, "4f73cac873a9e1a5711308c22dd27e8b54ca01534a6456cbe81142bad7fe43d3"), looks := true }, kinds := [], alts := [], laidByText := true, laidKinds := [.data, .data, .widerDeep, .widerDeep, .data, .data, .data, .data, .data, .sentinel, .sentinel, .data, .pinned, .pinned, .pinned], laidTests := true, laidLooks := .later }
def FnSegmentsSayUptoCardSaid : Prop := Claim7.holds Tryz.pinned (.plain (OpenSpec.upto fnSegmentsSaySpec)) fnSegmentsSayUptoCard

/-- THE SECOND FORM's CARD OF 'laws.FnMatchesFolded'. -/
def fnMatchesFoldedUptoCard : Claim7 := { stood := { row := fnMatchesFoldedUptoRow, standIns := [], harness := (true, "4f73cac873a9e1a5711308c22dd27e8b54ca01534a6456cbe81142bad7fe43d3"), looks := true }, kinds := [], alts := [], laidByText := true, laidKinds := [.data, .data, .widerDeep, .widerDeep, .data, .data, .data, .data, .data, .sentinel, .sentinel, .data, .pinned, .pinned, .pinned], laidTests := true, laidLooks := .later }
def FnMatchesFoldedUptoCardSaid : Prop := Claim7.holds Tryz.pinned (.plain (OpenSpec.upto fnMatchesFoldedSpec)) fnMatchesFoldedUptoCard

/-- THE SECOND FORM's CARD OF 'laws.FnMatchesValues'. -/
def fnMatchesValuesUptoCard : Claim7 := { stood := { row := fnMatchesValuesUptoRow, standIns := [], harness := (true, "4f73cac873a9e1a5711308c22dd27e8b54ca01534a6456cbe81142bad7fe43d3"), looks := true }, kinds := [], alts := [], laidByText := true, laidKinds := [.data, .data, .widerDeep, .widerDeep, .data, .data, .data, .data, .data, .sentinel, .sentinel, .data, .pinned, .pinned, .pinned], laidTests := true, laidLooks := .later }
def FnMatchesValuesUptoCardSaid : Prop := Claim7.holds Tryz.pinned (.plain (OpenSpec.upto fnMatchesValuesSpec)) fnMatchesValuesUptoCard
end Rows
end Go.Proofs.YtiebedcldbmlhaaGreatDoor
