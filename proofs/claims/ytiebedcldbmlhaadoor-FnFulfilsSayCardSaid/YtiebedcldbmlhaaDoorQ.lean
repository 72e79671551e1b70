/-
  What the rows list of package-level variables gives the walks, and a world in which it holds. Conditions: none.
-/
import Derived.Test.YtiebedcldbmlhaaDoorRows
import Derived.Test.YtiebedcldbmlhaaDoorTie
import Derived.Test.YtiebedcldbmlhaaDoorCards
import Derived.Test.YtiebedcldbmlhaaDoorC
import Derived.ProofKit
import Derived.OpenShut
import Derived.LaidMore
import Derived.Lay
import Derived.SevenTiedAt
import Derived.Stop.Joined
import Derived.Stop.LaidErr
import Derived.SizedLaws
import Derived.ShutString
namespace Go.Proofs.YtiebedcldbmlhaaDoor
open Go.ChangeShapes Go.WideShapes Go.ChangeAt Go.RowKit
open Go.ChangeMaps (open_string shut_string)
set_option linter.unusedVariables false

abbrev laidAll : List (String × DataW Unit) := Rows.fnFulfilsLengthRow.laid

theorem own : ownKnob Tryd.prog.godebug = none := by kernel_rfl
theorem laidOut : laidOutB Tryd.prog = true := by kernel_rfl
theorem gES : Tryd.prog.globalNamed "strconv.ErrSyntax" = some 2 := by kernel_rfl
theorem gER : Tryd.prog.globalNamed "strconv.ErrRange" = some 3 := by kernel_rfl
theorem gEST : (Tryd.prog.globals[2]?).map (·.type) = some 50 := by kernel_rfl
theorem gERT : (Tryd.prog.globals[3]?).map (·.type) = some 50 := by kernel_rfl

/-- Of a listed error: its one cell holds an interface value. -/
theorem laid_iface {P : Program} {n nm : String} {d : DataW Unit} {r : List (String × DataW Unit)} {W : World} {g : Nat} {ti : TypeId} {ms : Array (String × TypeId)}
    (h : laidMet P ((n, .iface nm d) :: r) W) (hg : P.globalNamed n = some g) (ht : (P.globals[g]?).map (·.type) = some ti) (hi : P.underlying ti = some (.interface ms)) :
    ∃ te pe, W.cell? ⟨g, 0, none⟩ = some (.iface te pe) := by
  obtain ⟨ps, ⟨g0, t0, cs0, f0, p0, q0, hg0, ht0, hv0, hd0, _, e0⟩, _, hrows⟩ := h
  obtain rfl := Option.some.inj (hg.symm.trans hg0)
  obtain rfl := Option.some.inj (ht.symm.trans ht0)
  obtain ⟨l0⟩ := cs0
  obtain ⟨f1, u, v, hl, _, _⟩ := iface_of_trod hi hd0
  simp only at hl
  subst hl
  exact ⟨u, v, by simpa using World.var?_cell hg0 hv0 0⟩

theorem env_of_laid {W : World} (h : laidMetH Tryd.prog laidAll W) : Env W := by
  rw [MakeChecks.laidMetH_plain _ _ _ (by kernel_rfl)] at h
  have h9 := h.tail.tail.tail.tail.tail.tail.tail.tail.tail
  have e3 := laid_iface h9 gER gERT Tryd.underlying50
  have e2 := laid_iface h9.tail gES gEST Tryd.underlying50
  obtain ⟨te, pe, hc⟩ := e3
  have := cell_lt hc
  exact ⟨this, e2, ⟨te, pe, hc⟩⟩

theorem laid_shaped (os : Os) (args : Array Value) : ((World.laidAll Tryd.prog os laidAll).forCall (fun _ _ => 0) ⟨#[], args, []⟩).Shaped Tryd.checked.prog := World.shaped_of_ZipB (by kernel_rfl) (by kernel_rfl)
theorem laid_met (os : Os) (args : Array Value) : laidMetH Tryd.prog laidAll ((World.laidAll Tryd.prog os laidAll).forCall (fun _ _ => 0) ⟨#[], args, []⟩).memory := by
  rw [MakeChecks.laidMetH_plain _ _ _ (by kernel_rfl)]; exact laidMet_laidAll _ (by kernel_rfl) (by kernel_rfl)
end Go.Proofs.YtiebedcldbmlhaaDoor
