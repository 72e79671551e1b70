/-
  Joined: What the rows' list of package-level variables gives the walks, and a world in which it holds; What the rows' list of package-level variables gives the walks that check any constraints: the error variables, the properties, the letters' table, the tables that floats are read by.
  Conditions: each law's own.
-/
import Derived.Test.YtiebedcldbmlhaaGreatDoorRows
import Derived.Test.YtiebedcldbmlhaaGreatDoorTie
import Derived.Test.YtiebedcldbmlhaaGreatDoorCards
import Derived.Test.YtiebedcldbmlhaaGreatDoorK26
import Derived.Lib.LaidTab
import Derived.ProofKit
import Derived.OpenShut
import Derived.LaidMore
import Derived.Lay
import Derived.SevenTiedAt
import Derived.Stop.Joined
import Derived.Stop.LaidErr
import Derived.SizedLaws
import Derived.ShutString
import Derived.Test.YtiebedcldbmlhaaGreatDoorK36
import Derived.Test.YtiebedcldbmlhaaGreatDoorK14
import Derived.Lib.LaidRTab
namespace Go.Proofs.YtiebedcldbmlhaaGreatDoor
open Go.ChangeShapes Go.WideShapes Go.ChangeAt Go.RowKit
open Go.ChangeMaps (open_string shut_string)
set_option linter.unusedVariables false

abbrev laidAll : List (String × DataW Unit) := Rows.fnPatternRestRow.laid

theorem own : ownKnob Tryz.prog.godebug = none := by kernel_rfl
theorem laidOut : laidOutB Tryz.prog = true := by kernel_rfl
theorem gPT : Tryz.prog.globalNamed "internal/strconv.uint64pow10" = some 11 := by kernel_rfl
theorem gPTT : (Tryz.prog.globals[11]?).map (·.type) = some 210 := by kernel_rfl
theorem cells143 : Tryz.prog.cellsOf 143 = 1 := by kernel_rfl
theorem cells210 : Tryz.prog.cellsOf 210 = 20 := by kernel_rfl

theorem env_of_laid {W : World} (h : laidMetH Tryz.prog laidAll W) : EnvZ W := by
  rw [MakeChecks.laidMetH_plain _ _ _ (by kernel_rfl)] at h
  have h9 := h.tail.tail.tail.tail.tail.tail.tail.tail
  have ht : Lib.TabIs Tryz.prog W "internal/strconv.uint64pow10" .u64 Lib.pow10Tab := Lib.tabIs_of_head gPT gPTT Tryz.underlying210 Tryz.underlying143 cells143 cells210 h9
  exact ⟨W.heap.size, Nat.le_refl _, Lib.tabBelow_of_tabIs ht⟩

theorem laid_shaped (os : Os) (args : Array Value) : ((World.laidAll Tryz.prog os laidAll).forCall (fun _ _ => 0) ⟨#[], args, []⟩).Shaped Tryz.checked.prog := World.shaped_of_ZipB (by kernel_rfl) (by kernel_rfl)
theorem laid_met (os : Os) (args : Array Value) : laidMetH Tryz.prog laidAll ((World.laidAll Tryz.prog os laidAll).forCall (fun _ _ => 0) ⟨#[], args, []⟩).memory := by
  rw [MakeChecks.laidMetH_plain _ _ _ (by kernel_rfl)]; exact laidMet_laidAll _ (by kernel_rfl) (by kernel_rfl)
end Go.Proofs.YtiebedcldbmlhaaGreatDoor
namespace Go.Proofs.YtiebedcldbmlhaaGreatDoor
open Go.ChangeShapes Go.WideShapes Go.ChangeAt Go.RowKit Go.Shelf Go.Lib
set_option linter.unusedVariables false

theorem gES : Tryz.prog.globalNamed "strconv.ErrSyntax" = some 2 := by kernel_rfl
theorem gER : Tryz.prog.globalNamed "strconv.ErrRange" = some 3 := by kernel_rfl
theorem gEST : (Tryz.prog.globals[2]?).map (·.type) = some 86 := by kernel_rfl
theorem gERT : (Tryz.prog.globals[3]?).map (·.type) = some 86 := by kernel_rfl
theorem gPrT : (Tryz.prog.globals[0]?).map (·.type) = some 111 := by kernel_rfl
theorem gLT : (Tryz.prog.globals[1]?).map (·.type) = some (Tryz.lays261_ren.t 141) := by kernel_rfl
theorem gLN : Tryz.prog.globalNamed "unicode.Letter" = some 1 := by kernel_rfl
theorem cells111 : Tryz.prog.cellsOf 111 = 256 := by kernel_rfl
theorem letter_pin : Go.Pinned.letter = Lib.rtabData letterT := by kernel_rfl
theorem props_pin : (Rows.laid_unicode_properties : DataW Unit) = Lib.tabData .u8 Lib.propertiesTab := by kernel_rfl
theorem xLetter : RExtra Tryz.prog Tryz.lays261_ren := ⟨by kernel_rfl, by kernel_rfl, by kernel_rfl, by kernel_rfl, by kernel_rfl, by kernel_rfl, by kernel_rfl, by kernel_rfl⟩

/-- Of a listed error: its one cell holds an interface value. -/
theorem laid_iface {P : Program} {n nm : String} {d : DataW Unit} {r : List (String × DataW Unit)} {W : World} {g : Nat} {ti : TypeId} {ms : Array (String × TypeId)}
    (h : laidMet P ((n, .iface nm d) :: r) W) (hg : P.globalNamed n = some g) (ht : (P.globals[g]?).map (·.type) = some ti) (hi : P.underlying ti = some (.interface ms)) :
    ∃ te pe, W.cell? ⟨g, 0, none⟩ = some (.iface te pe) := by
  obtain ⟨ps, ⟨g0, t0, cs0, f0, p0, q0, hg0, ht0, hv0, hd0, _, e0⟩, _, hrows⟩ := h
  obtain rfl := Option.some.inj (hg.symm.trans hg0)
  obtain rfl := Option.some.inj (ht.symm.trans ht0)
  obtain ⟨l0⟩ := cs0
  obtain ⟨f1, u, v, hl, _, _⟩ := iface_of_trod hi hd0
  simp only at hl
  subst hl
  exact ⟨u, v, by simpa using World.var?_cell hg0 hv0 0⟩

set_option maxRecDepth 100000 in
theorem envC_of_laid {W : World} (h : laidMetH Tryz.prog laidAll W) : EnvC W := by
  rw [MakeChecks.laidMetH_plain _ _ _ (by kernel_rfl)] at h
  have h9 := h.tail.tail.tail.tail.tail.tail.tail.tail.tail
  have e3 := laid_iface h9 gER gERT Tryz.underlying86
  have e2 := laid_iface h9.tail gES gEST Tryz.underlying86
  have hp : Lib.TabIs Tryz.prog W "unicode.properties" .u8 Lib.propertiesTab := Lib.tabIs_of_head gProps gPrT Tryz.underlying111 Tryz.underlying5 (by kernel_rfl) cells111 h9.tail.tail
  have hl := Lib.laidMet.reads h9.tail.tail.tail.tail.tail (.head _)
  have hl2 : VarReads Tryz.prog W "unicode.Letter" (Lib.rtabData letterT) := letter_pin ▸ hl
  have hv : RVar 1 letterT W := rvar_of_reads Tryz.lays261 xLetter gLN gLT hl2
  obtain ⟨te, pe, hc⟩ := e3
  have := cell_lt hc
  exact ⟨this, e2, ⟨te, pe, hc⟩, hp, hv⟩

set_option maxRecDepth 100000 in
theorem envA_of_laid {W : World} (h0 : laidMetH Tryz.prog laidAll W) : EnvA Fl.pTab W := by
  have hc := envC_of_laid h0
  have hz := env_of_laid h0
  have h := h0
  rw [MakeChecks.laidMetH_plain _ _ _ (by kernel_rfl)] at h
  have h9 := h.tail.tail.tail.tail.tail.tail.tail.tail.tail
  have hL : Fl.Laid W :=
    ⟨Lib.laidMet.reads h.tail.tail (.head _), Lib.laidMet.reads h.tail.tail.tail.tail (.head _), Lib.laidMet.reads h.tail.tail.tail.tail.tail (.head _), Lib.laidMet.reads h.tail.tail.tail.tail.tail.tail.tail (.head _),
      Lib.laidMet.reads h9.tail.tail.tail (.head _), Lib.laidMet.reads h9.tail.tail.tail.tail (.head _)⟩
  exact ⟨hc, hz, _, Fl.aenv_of hL⟩
end Go.Proofs.YtiebedcldbmlhaaGreatDoor
