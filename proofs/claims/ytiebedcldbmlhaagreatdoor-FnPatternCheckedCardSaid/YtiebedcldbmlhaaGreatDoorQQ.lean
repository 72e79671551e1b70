/-
  What the rows' list of package-level variables gives the walks, and a world in which it holds. Conditions: none.
-/
import Derived.Test.YtiebedcldbmlhaaGreatDoorRows
import Derived.Test.YtiebedcldbmlhaaGreatDoorTie
import Derived.Test.YtiebedcldbmlhaaGreatDoorCards
import Derived.Test.YtiebedcldbmlhaaGreatDoorZ
import Derived.Lib.LaidTab
import Derived.ProofKit
import Derived.OpenShut
import Derived.LaidMore
import Derived.Lay
import Derived.SevenTiedAt
import Derived.Stop.Joined
import Derived.Stop.LaidErr
import Derived.SizedLaws
import Derived.ShutString
namespace Go.Proofs.YtiebedcldbmlhaaGreatDoor
open Go.ChangeShapes Go.WideShapes Go.ChangeAt Go.RowKit
open Go.ChangeMaps (open_string shut_string)
set_option linter.unusedVariables false

abbrev laidAll : List (String × DataW Unit) := Rows.fnPatternRestRow.laid

theorem own : ownKnob Tryz.prog.godebug = none := by kernel_rfl
theorem laidOut : laidOutB Tryz.prog = true := by kernel_rfl
theorem gPT : Tryz.prog.globalNamed "internal/strconv.uint64pow10" = some 11 := by kernel_rfl
theorem gPTT : (Tryz.prog.globals[11]?).map (·.type) = some 210 := by kernel_rfl
theorem cells143 : Tryz.prog.cellsOf 143 = 1 := by kernel_rfl
theorem cells210 : Tryz.prog.cellsOf 210 = 20 := by kernel_rfl

theorem env_of_laid {W : World} (h : laidMetH Tryz.prog laidAll W) : EnvZ W := by
  rw [MakeChecks.laidMetH_plain _ _ _ (by kernel_rfl)] at h
  have h9 := h.tail.tail.tail.tail.tail.tail.tail.tail
  have ht : Lib.TabIs Tryz.prog W "internal/strconv.uint64pow10" .u64 Lib.pow10Tab := Lib.tabIs_of_head gPT gPTT Tryz.underlying210 Tryz.underlying143 cells143 cells210 h9
  exact ⟨W.heap.size, Nat.le_refl _, Lib.tabBelow_of_tabIs ht⟩

theorem laid_shaped (os : Os) (args : Array Value) : ((World.laidAll Tryz.prog os laidAll).forCall (fun _ _ => 0) ⟨#[], args, []⟩).Shaped Tryz.checked.prog := World.shaped_of_ZipB (by kernel_rfl) (by kernel_rfl)
theorem laid_met (os : Os) (args : Array Value) : laidMetH Tryz.prog laidAll ((World.laidAll Tryz.prog os laidAll).forCall (fun _ _ => 0) ⟨#[], args, []⟩).memory := by
  rw [MakeChecks.laidMetH_plain _ _ _ (by kernel_rfl)]; exact laidMet_laidAll _ (by kernel_rfl) (by kernel_rfl)
end Go.Proofs.YtiebedcldbmlhaaGreatDoor
