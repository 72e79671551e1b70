/-
  DERIVED. GIVEN WITH THE SEED: THE CARDS: each row of YtiebedcldbmlhaaDoorRows.lean that lists a variable, with what it lists TIED to the program's text (the seventh form; the later family's looks); each row that meets fmt, with fmt's text TOLD by the authors' own Lean function (tested against real Go, not proved from fmt's source: count such statements apart). THE CARD IS WHAT COUNTS. Prove the row's statement (the work); the ties are given (YtiebedcldbmlhaaDoorTie.lean); close each card by the builder's one call (the guide's Derived/Test/ToyasCard.lean, 'card_holds'). Laid BY PROGRAM, IN A SANDBOX (cutbox-door.mjs). By AI agents, Wed Nov 11 2026. No macro, syntax, notation, axiom, sorry.
-/
import Derived.Test.YtiebedcldbmlhaaDoorRows
import GoSem.ClaimSeven
namespace Go.Proofs.YtiebedcldbmlhaaDoor
namespace Rows

/-- THE TIED CARD OF 'laws.FnFulfilsLength'. -/
def fnFulfilsLengthCard : Claim7 := { stood := { row := fnFulfilsLengthRow, standIns := [], harness := (true, "9a0c43e4df3e16e2ca0fe9dfa9c1b7eb4fa3e5a0ccd8f1820e530308aa66c85d"), looks := true }, kinds := [], alts := [], laidByText := true, laidKinds := [.data, .data, .widerDeep, .widerDeep, .data, .data, .data, .data, .data, .sentinel, .sentinel, .data, .pinned, .pinned, .pinned], laidTests := true, laidLooks := .later }
def FnFulfilsLengthCardSaid : Prop := Claim7.holds Tryd.pinned (.plain (OpenSpec.ofChange fnFulfilsLengthSpec)) fnFulfilsLengthCard

/-- THE TIED CARD OF 'laws.FnFulfilsNumber'. -/
def fnFulfilsNumberCard : Claim7 := { stood := { row := fnFulfilsNumberRow, standIns := [], harness := (true, "9a0c43e4df3e16e2ca0fe9dfa9c1b7eb4fa3e5a0ccd8f1820e530308aa66c85d"), looks := true }, kinds := [], alts := [], laidByText := true, laidKinds := [.data, .data, .widerDeep, .widerDeep, .data, .data, .data, .data, .data, .sentinel, .sentinel, .data, .pinned, .pinned, .pinned], laidTests := true, laidLooks := .later }
def FnFulfilsNumberCardSaid : Prop := Claim7.holds Tryd.pinned (.plain (OpenSpec.ofChange fnFulfilsNumberSpec)) fnFulfilsNumberCard

/-- THE TIED CARD OF 'laws.FnFulfilsSay'. -/
def fnFulfilsSayCard : Claim7 := { stood := { row := fnFulfilsSayRow, standIns := [], harness := (true, "9a0c43e4df3e16e2ca0fe9dfa9c1b7eb4fa3e5a0ccd8f1820e530308aa66c85d"), looks := true }, kinds := [], alts := [], laidByText := true, laidKinds := [.data, .data, .widerDeep, .widerDeep, .data, .data, .data, .data, .data, .sentinel, .sentinel, .data, .pinned, .pinned, .pinned], laidTests := true, laidLooks := .later }
def FnFulfilsSayCardSaid : Prop := Claim7.holds Tryd.pinned (.plain (OpenSpec.ofChange fnFulfilsSaySpec)) fnFulfilsSayCard

/-- THE SECOND FORM's CARD OF 'laws.FnFulfilsLength'. -/
def fnFulfilsLengthUptoCard : Claim7 := { stood := { row := fnFulfilsLengthUptoRow, standIns := [], harness := (true, "9a0c43e4df3e16e2ca0fe9dfa9c1b7eb4fa3e5a0ccd8f1820e530308aa66c85d"), looks := true }, kinds := [], alts := [], laidByText := true, laidKinds := [.data, .data, .widerDeep, .widerDeep, .data, .data, .data, .data, .data, .sentinel, .sentinel, .data, .pinned, .pinned, .pinned], laidTests := true, laidLooks := .later }
def FnFulfilsLengthUptoCardSaid : Prop := Claim7.holds Tryd.pinned (.plain (OpenSpec.upto fnFulfilsLengthSpec)) fnFulfilsLengthUptoCard

/-- THE SECOND FORM's CARD OF 'laws.FnFulfilsNumber'. -/
def fnFulfilsNumberUptoCard : Claim7 := { stood := { row := fnFulfilsNumberUptoRow, standIns := [], harness := (true, "9a0c43e4df3e16e2ca0fe9dfa9c1b7eb4fa3e5a0ccd8f1820e530308aa66c85d"), looks := true }, kinds := [], alts := [], laidByText := true, laidKinds := [.data, .data, .widerDeep, .widerDeep, .data, .data, .data, .data, .data, .sentinel, .sentinel, .data, .pinned, .pinned, .pinned], laidTests := true, laidLooks := .later }
def FnFulfilsNumberUptoCardSaid : Prop := Claim7.holds Tryd.pinned (.plain (OpenSpec.upto fnFulfilsNumberSpec)) fnFulfilsNumberUptoCard

/-- THE SECOND FORM's CARD OF 'laws.FnFulfilsSay'. -/
def fnFulfilsSayUptoCard : Claim7 := { stood := { row := fnFulfilsSayUptoRow, standIns := [], harness := (true, "9a0c43e4df3e16e2ca0fe9dfa9c1b7eb4fa3e5a0ccd8f1820e530308aa66c85d"), looks := true }, kinds := [], alts := [], laidByText := true, laidKinds := [.data, .data, .widerDeep, .widerDeep, .data, .data, .data, .data, .data, .sentinel, .sentinel, .data, .pinned, .pinned, .pinned], laidTests := true, laidLooks := .later }
def FnFulfilsSayUptoCardSaid : Prop := Claim7.holds Tryd.pinned (.plain (OpenSpec.upto fnFulfilsSaySpec)) fnFulfilsSayUptoCard
end Rows
end Go.Proofs.YtiebedcldbmlhaaDoor
