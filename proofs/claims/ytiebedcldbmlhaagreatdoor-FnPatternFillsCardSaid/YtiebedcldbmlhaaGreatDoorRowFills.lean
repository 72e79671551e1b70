/-
  Joined: The tied card of the law FnPatternFills.
  Conditions: each law's own.
-/
import Derived.Test.YtiebedcldbmlhaaGreatDoorRowFillsA
namespace Go.Proofs.YtiebedcldbmlhaaGreatDoor
open Go.ChangeShapes Go.WideShapes Go.ChangeAt Go.RowKit
open Go.ChangeMaps (open_string shut_string)
set_option linter.unusedVariables false
theorem fnPatternFills_card : Rows.FnPatternFillsCardSaid :=
  Claim7.holds_tied_plain_at .later [] [.data, .data, .widerDeep, .widerDeep, .data, .data, .data, .data, .data, .sentinel, .sentinel, .data, .pinned, .pinned, .pinned] true (true, "4f73cac873a9e1a5711308c22dd27e8b54ca01534a6456cbe81142bad7fe43d3") true fnPatternFills_row (fun _ h => by cases h) (by kernel_rfl) (fun _ h => by cases h) fnPatternFills_row_tie rfl ⟨rfl, rfl⟩ (by kernel_rfl) rfl
    (fun f fn hf hfn => by
      obtain rfl : f = 9 := Option.some.inj ((show Tryz.prog.funcNamed "pub-bridlepath/laws.FnPatternFills" = some 9 by kernel_rfl).symm.trans hf) |>.symm
      obtain rfl : fn = Tryz.f9 := (Option.some.inj (Tryz.func9.symm.trans hfn)).symm
      exact ⟨by kernel_rfl, fun j t ht => by
        rw [Tryz.params9] at ht
        have hm : t ∈ [9, 9] := by simpa using Array.mem_of_getElem? ht
        have hall : ([9, 9].all fun u => !Tryz.prog.wantsStandIn u) = true := by kernel_rfl
        exact (show Tryz.prog.wantsStandIn t = false by simpa using List.all_eq_true.1 hall t hm)⟩)
    (by kernel_rfl)
#print axioms fnPatternFills_card
end Go.Proofs.YtiebedcldbmlhaaGreatDoor
