/-
  What the rows' list of package-level variables gives the walk of FnFulfilsSay; a constraint among a law's arguments, opened. Conditions: none.
-/
import Derived.Test.YtiebedcldbmlhaaDoorQ
import Derived.Test.YtiebedcldbmlhaaDoorAC
import Derived.Test.YtiebedcldbmlhaaDoorFY
import Derived.SliceStrings
import Derived.Laws.Pointers
namespace Go.Proofs.YtiebedcldbmlhaaDoor
open Go.ChangeShapes Go.WideShapes Go.ChangeAt Go.RowKit Go.Shelf Go.Lib
set_option linter.unusedVariables false

theorem gPrT : (Tryd.prog.globals[0]?).map (·.type) = some 63 := by kernel_rfl
theorem gLT : (Tryd.prog.globals[1]?).map (·.type) = some (Tryd.lays261_ren.t 141) := by kernel_rfl
theorem gLN : Tryd.prog.globalNamed "unicode.Letter" = some 1 := by kernel_rfl
theorem cells5 : Tryd.prog.cellsOf 5 = 1 := by kernel_rfl
theorem cells63 : Tryd.prog.cellsOf 63 = 256 := by kernel_rfl
theorem letter_pin : Go.Pinned.letter = Lib.rtabData letterT := by kernel_rfl
theorem xLetter : RExtra Tryd.prog Tryd.lays261_ren := ⟨by kernel_rfl, by kernel_rfl, by kernel_rfl, by kernel_rfl, by kernel_rfl, by kernel_rfl, by kernel_rfl, by kernel_rfl⟩

set_option maxRecDepth 100000 in
theorem envF_of_laid {W : World} (h0 : laidMetH Tryd.prog laidAll W) : EnvF Fl.pTab W.heap.size W := by
  have henv := env_of_laid h0
  have h := h0
  rw [MakeChecks.laidMetH_plain _ _ _ (by kernel_rfl)] at h
  have h9 := h.tail.tail.tail.tail.tail.tail.tail.tail.tail
  have hp : Lib.TabIs Tryd.prog W "unicode.properties" .u8 Lib.propertiesTab := Lib.tabIs_of_head gProps gPrT Tryd.underlying63 Tryd.underlying5 cells5 cells63 h9.tail.tail
  have hl := Lib.laidMet.reads h9.tail.tail.tail.tail.tail (.head _)
  have hl2 : VarReads Tryd.prog W "unicode.Letter" (Lib.rtabData letterT) := letter_pin ▸ hl
  have hv : RVar 1 letterT W := rvar_of_reads Tryd.lays261 xLetter gLN gLT hl2
  have hL : Fl.Laid W := 
    ⟨Lib.laidMet.reads h.tail.tail (.head _), Lib.laidMet.reads h.tail.tail.tail.tail (.head _), Lib.laidMet.reads h.tail.tail.tail.tail.tail (.head _), Lib.laidMet.reads h.tail.tail.tail.tail.tail.tail.tail (.head _),
      Lib.laidMet.reads h9.tail.tail.tail (.head _), Lib.laidMet.reads h9.tail.tail.tail.tail (.head _)⟩
  exact ⟨henv, hp, hv, Fl.aenv_of hL⟩

theorem say_laid (kind : Int) (a : Option Addr) (cap : Nat) (ds : List ByteArray) (s : ByteArray) (w : World) (h : laidMetH Tryd.prog laidAll w) (hD : Dat w a cap ds) (hl : ds.length ≤ maxLen) (hs : s.size ≤ 140737488351232) :
    Calls Tryd.prog 5 #[.agg #[.int .i64 kind, .slice a ds.length cap], .string s] w fun e w' => e = .returned (.bool true) ∧ Below w.heap.size w w' :=
  say_walk Fl.pTab w.heap.size kind a cap ds s w (envF_of_laid h) hD hl hs

theorem cells9 : Tryd.prog.cellsOf 9 = 1 := by kernel_rfl
theorem strs_open {H : Type} {enc : TypeId × Value → H} {W : World} {fuel : Nat} {v : Value} {d : DataW H} {p : List MemPlace} (hf : DataW.trod enc Tryd.prog W 0 (fun _ => true) true fuel 23 [v] = some (d, p)) :
    ∃ (a : Option Addr) (cap : Nat) (ss : List ByteArray), v = .slice a ss.length cap ∧ ss.length ≤ maxLen ∧ Dat W a cap ss := by
  rcases open_strings Tryd.underlying23 Tryd.underlying9 cells9 hf with ⟨hcs, _⟩ | ⟨a', len', cap', ss, hcs, _, hl, hm, hz, _, hcell, _⟩
  · simp only [List.cons.injEq, and_true] at hcs
    exact ⟨none, 0, [], hcs, Nat.zero_le _, ⟨.inl ⟨rfl, fun _ => rfl⟩⟩⟩
  · simp only [List.cons.injEq, and_true] at hcs
    subst hcs
    simp only [if_true] at hz
    have hlen : (ss.take len').length = len' := by rw [List.length_take]; omega
    refine ⟨some a', cap', ss.take len', by rw [hlen], by rw [hlen]; omega, ⟨?_⟩⟩
    rcases Nat.eq_zero_or_pos len' with h0 | h0
    · exact .inl ⟨by rw [h0]; rfl, fun h => by cases h⟩
    · right
      obtain ⟨b, off, spot⟩ := a'
      have h00 := hcell 0 (by omega)
      have hspot : spot = none := by simpa [Addr.add] using World.cell?_spot h00
      subst hspot
      rw [add_cell] at h00
      refine ⟨b, off, rfl, cell_lt h00, fun i hi => ?_, by rw [hlen]; omega⟩
      have hi' : i < len' := by rw [hlen] at hi; exact hi
      have hc := hcell i (by omega)
      rw [add_cell] at hc
      rw [hc, List.getD_eq_getElem?_getD, List.getD_eq_getElem?_getD, List.getElem?_take_of_lt hi']
set_option maxRecDepth 100000 in
theorem check_open {H : Type} {enc : TypeId × Value → H} {W : World} {r : Reach} {base : Nat} {v : Value} {d : DataW H} {p : List MemPlace} (hv : Value.okWide Tryd.prog W r base 25 v) (h : DataW.Trod enc Tryd.prog W 0 (fun _ => true) true 25 v d p) :
    ∃ (kind : Int) (a : Option Addr) (cap : Nat) (ss : List ByteArray), v = .agg #[.int .i64 kind, .slice a ss.length cap] ∧ ss.length ≤ maxLen ∧ Dat W a cap ss := by
  obtain ⟨cs, rfl, hsz⟩ := okWide_struct Tryd.underlying25 hv
  have c25 : Tryd.prog.cellsOf 25 = 2 := by kernel_rfl
  have h2 : cs.size = 2 := hsz.trans c25
  obtain ⟨x, y, rfl⟩ : ∃ x y, cs = #[x, y] := by
    obtain ⟨l⟩ := cs
    match l, h2 with
    | [x, y], _ => exact ⟨x, y, rfl⟩
  obtain ⟨fuel, hf⟩ := h
  have hf' : DataW.trod enc Tryd.prog W 0 (fun _ => true) true fuel 25 [x, y] = some (d, p) := hf
  obtain ⟨xs, n, rfl, hx, _, hl, hall⟩ := DataW.trod_struct Tryd.underlying25 hf'
  have c3 : Tryd.prog.cellsOf 3 = 1 := by kernel_rfl
  have c23 : Tryd.prog.cellsOf 23 = 1 := by kernel_rfl
  have l2 : xs.length = 2 := hl
  have e0 : DataW.trod enc Tryd.prog W 0 (fun _ => true) true n 3 ((List.drop 0 [x, y]).take (Tryd.prog.cellsOf 3)) = xs[0]? := hall 0 _ rfl
  have e1 : DataW.trod enc Tryd.prog W 0 (fun _ => true) true n 23 ((List.drop 1 [x, y]).take (Tryd.prog.cellsOf 23)) = xs[1]? := hall 1 _ rfl
  rw [c3] at e0
  rw [c23] at e1
  obtain ⟨b0, hb0⟩ : ∃ b, xs[0]? = some b := ⟨_, List.getElem?_eq_getElem (by omega)⟩
  obtain ⟨b1, hb1⟩ : ∃ b, xs[1]? = some b := ⟨_, List.getElem?_eq_getElem (by omega)⟩
  rw [hb0] at e0
  rw [hb1] at e1
  obtain ⟨k, hk, _, _⟩ := DataW.trod_int Tryd.underlying3 e0
  have hk : x = .int .i64 k := by
    have := congrArg (·[0]?) hk
    simpa using this
  subst hk
  obtain ⟨a, cap, ss, rfl, hm, hD⟩ := strs_open (v := y) (d := b1.1) (p := b1.2) e1
  exact ⟨k, a, cap, ss, rfl, hm, hD⟩
end Go.Proofs.YtiebedcldbmlhaaDoor
