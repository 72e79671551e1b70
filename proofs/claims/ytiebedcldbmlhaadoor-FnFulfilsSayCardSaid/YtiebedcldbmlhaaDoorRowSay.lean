/-
  The tied card of the law FnFulfilsSay. Conditions: the listed variables hold what the program's text lays.
-/
import Derived.Test.YtiebedcldbmlhaaDoorRowSayA
namespace Go.Proofs.YtiebedcldbmlhaaDoor
open Go.ChangeShapes Go.WideShapes Go.ChangeAt Go.RowKit
open Go.ChangeMaps (open_string shut_string)
set_option linter.unusedVariables false
theorem fnFulfilsSay_card : Rows.FnFulfilsSayCardSaid :=
  Claim7.holds_tied_plain_at .later [] [.data, .data, .widerDeep, .widerDeep, .data, .data, .data, .data, .data, .sentinel, .sentinel, .data, .pinned, .pinned, .pinned] true (true, "9a0c43e4df3e16e2ca0fe9dfa9c1b7eb4fa3e5a0ccd8f1820e530308aa66c85d") true fnFulfilsSay_row (fun _ h => by cases h) (by kernel_rfl) (fun _ h => by cases h) fnFulfilsSay_row_tie rfl ⟨rfl, rfl⟩ (by kernel_rfl) rfl
    (fun f fn hf hfn => by
      obtain rfl : f = 5 := Option.some.inj ((show Tryd.prog.funcNamed "pub-bridlepath/laws.FnFulfilsSay" = some 5 by kernel_rfl).symm.trans hf) |>.symm
      obtain rfl : fn = Tryd.f5 := (Option.some.inj (Tryd.func5.symm.trans hfn)).symm
      exact ⟨by kernel_rfl, fun j t ht => by
        rw [Tryd.params5] at ht
        have hm : t ∈ [25, 9] := by simpa using Array.mem_of_getElem? ht
        have hall : ([25, 9].all fun u => !Tryd.prog.wantsStandIn u) = true := by kernel_rfl
        exact (show Tryd.prog.wantsStandIn t = false by simpa using List.all_eq_true.1 hall t hm)⟩)
    (by kernel_rfl)
#print axioms fnFulfilsSay_card
end Go.Proofs.YtiebedcldbmlhaaDoor
