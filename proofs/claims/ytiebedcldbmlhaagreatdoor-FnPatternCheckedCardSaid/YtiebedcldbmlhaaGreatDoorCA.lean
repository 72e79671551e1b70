/-
  What strconv.Atoi answers at every text, its error told from nil; what the package-level variables hold. Conditions: the package-level errors hold interface values, the text is within the reach.
-/
import Derived.Test.YtiebedcldbmlhaaGreatDoorZ
import Derived.Shelf.Unicode.PredsAny
import Derived.WideLaws
import Derived.LaidEql
import Derived.Lib.SmallJoins
namespace Go.Proofs.YtiebedcldbmlhaaGreatDoor
open Go.RowKit
open Go.Lib (RVar letterT RgTab RTab)
set_option linter.unusedVariables false

theorem kept_cell {w w' : World} (hb : Below w.heap.size w w') {a : Addr} {v : Value} (hc : w.cell? a = some v) : w'.cell? a = some v := (hb.cell (World.block_lt_of_cell? w a hc)).trans hc
theorem rvar_below {g : Nat} {T : Lib.RTab} {w w' : World} (h : RVar g T w) (hb : Below w.heap.size w w') : RVar g T w' := by
  obtain ⟨Tb, oT, hp, a16, a32, R16, o16, c16, R32, o32, c32, k0, k1, k2, h1, h2, t1, t2, hc⟩ := h
  exact ⟨Tb, oT, kept_cell hb hp, a16, a32, R16, o16, c16, R32, o32, c32, kept_cell hb k0, kept_cell hb k1, kept_cell hb k2, h1, h2, RgTab_below t1 hb, RgTab_below t2 hb, hc⟩
theorem tabIs_below {n : String} {g : Nat} {k : IntKind} {zs : List Int} {w w' : World} (hg : Tryz.prog.globalNamed n = some g) (h : Lib.TabIs Tryz.prog w n k zs) (hb : Below w.heap.size w w') : Lib.TabIs Tryz.prog w' n k zs := by
  unfold Lib.TabIs World.var? at h ⊢
  rw [hg] at h ⊢
  simp only [Option.bind_some] at h ⊢
  have hlt : g < w.heap.size := by
    rcases Nat.lt_or_ge g w.heap.size with h' | h'
    · exact h'
    · rw [Array.getElem?_eq_none h'] at h; cases h
  rw [hb.block g hlt]
  exact h
/-- What the package-level variables hold that constraints read. -/
structure EnvC (w : World) : Prop where
  size : 4 ≤ w.heap.size
  e2 : ∃ te pe, w.cell? ⟨2, 0, none⟩ = some (.iface te pe)
  e3 : ∃ te pe, w.cell? ⟨3, 0, none⟩ = some (.iface te pe)
  props : Lib.TabIs Tryz.prog w "unicode.properties" .u8 Lib.propertiesTab
  letters : RVar 1 letterT w
theorem gProps : Tryz.prog.globalNamed "unicode.properties" = some 0 := by kernel_rfl
theorem EnvC.below {w w' : World} (h : EnvC w) (hb : Below w.heap.size w w') : EnvC w' := by
  refine ⟨Nat.le_trans h.size hb.size, ?_, ?_, tabIs_below gProps h.props hb, rvar_below h.letters hb⟩
  · obtain ⟨t, p, h2⟩ := h.e2; exact ⟨t, p, (hb.cell (p := ⟨2, 0, none⟩) (show 2 < w.heap.size by have := h.size; omega)).trans h2⟩
  · obtain ⟨t, p, h2⟩ := h.e3; exact ⟨t, p, (hb.cell (p := ⟨3, 0, none⟩) (show 3 < w.heap.size by have := h.size; omega)).trans h2⟩

/-- The number that Atoi tells, whatever the text. -/
def atoiVal (l : List UInt8) : Int := match Lib.atoiAll l with | .ok v => v | .range => Lib.atoiSat l | _ => 0
def atoiOk (l : List UInt8) : Bool := match Lib.atoiAll l with | .ok _ => true | _ => false

theorem atoiVal_bounds (l : List UInt8) : -9223372036854775808 ≤ atoiVal l ∧ atoiVal l ≤ 9223372036854775807 := by
  unfold atoiVal
  split
  · exact Lib.atoiAll_bounds (by assumption)
  · unfold Lib.atoiSat; split <;> omega
  · omega

def ErrIs (ev : Value) (ok : Bool) : Prop := if ok then ev = .nilIface else ∃ N, ev = .iface 126 (.pointer (some ⟨N, 0, none⟩))

theorem atoi_any (s : ByteArray) (hs : s.size ≤ 281474976710656) (w : World) (hE : EnvC w) :
    Calls Tryz.prog 45 #[.string s] w fun e w' => ∃ ev, e = .returned (.tuple #[.int .i64 (atoiVal s.data.toList), ev]) ∧ ErrIs ev (atoiOk s.data.toList) ∧ Below w.heap.size w w' := by
  rcases h : Lib.atoiAll s.data.toList with v | _ | _
  · refine (Tryz.strconv_Atoi_ok s (by omega) v h w).mono ?_
    rintro e w' ⟨rfl, hw⟩
    refine ⟨.nilIface, by simp only [atoiVal, h], by simp [ErrIs, atoiOk, h], ?_⟩
    rcases hw with rfl | ⟨t, rfl⟩
    · exact Below.refl _ _
    · exact Joins.below_bytesWorld _ _ _ _ (Nat.le_refl _)
  · obtain ⟨te, pe, hv⟩ := hE.e2
    refine (Any.strconv_Atoi_syntax Tryz.laysC172 s hs h _ w hv (.inr ⟨te, pe, rfl⟩)).mono ?_
    rintro e w' ⟨N, rfl, _, _, hb⟩
    exact ⟨.iface 126 (.pointer (some ⟨N, 0, none⟩)), by simp only [atoiVal, h]; rfl, by simp [ErrIs, atoiOk, h], hb⟩
  · obtain ⟨te, pe, hv⟩ := hE.e3
    refine (Tryz.strconv_Atoi_range s hs h _ w hv (.inr ⟨te, pe, rfl⟩)).mono ?_
    rintro e w' ⟨N, rfl, _, _, hb⟩
    exact ⟨.iface 126 (.pointer (some ⟨N, 0, none⟩)), by simp only [atoiVal, h], by simp [ErrIs, atoiOk, h], hb⟩

theorem below_two (w : World) (o1 o2 : Obj) : Below w.heap.size w ((w.alloc o1).alloc o2) := ((Below.refl _ _).alloc (Nat.le_refl _) _).alloc (by simp) _


theorem nil_ne (N : Nat) (w : World) : (binOp .eql 86 (.iface 126 (.pointer (some ⟨N, 0, none⟩))) .nilIface).run Tryz.prog w = .ok (.bool false) w :=
  run_eql_held_nil _ 86 126 _ (by kernel_rfl)
end Go.Proofs.YtiebedcldbmlhaaGreatDoor
