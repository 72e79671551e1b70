/-
  What strconv.Atoi answers at every text, its error told from nil. Conditions: the package-level errors hold interface values, the text is within the reach.
-/
import Derived.Test.YtiebedcldbmlhaaDoorB
import Derived.Test.YtiebedcldbmlhaaDoorShelf
import Derived.WideLaws
import Derived.LaidEql
import Derived.Lib.SmallJoins
namespace Go.Proofs.YtiebedcldbmlhaaDoor
open Go.RowKit
set_option linter.unusedVariables false

/-- What the package-level variables hold. -/
structure Env (w : World) : Prop where
  size : 4 ≤ w.heap.size
  e2 : ∃ te pe, w.cell? ⟨2, 0, none⟩ = some (.iface te pe)
  e3 : ∃ te pe, w.cell? ⟨3, 0, none⟩ = some (.iface te pe)

theorem Env.below {B : Nat} {w w' : World} (h : Env w) (hb : Below B w w') (hB : 4 ≤ B) : Env w' := by
  refine ⟨Nat.le_trans h.size hb.size, ?_, ?_⟩
  · obtain ⟨t, p, h2⟩ := h.e2; exact ⟨t, p, (hb.cell (p := ⟨2, 0, none⟩) (show 2 < B by omega)).trans h2⟩
  · obtain ⟨t, p, h2⟩ := h.e3; exact ⟨t, p, (hb.cell (p := ⟨3, 0, none⟩) (show 3 < B by omega)).trans h2⟩

/-- The number that Atoi tells, whatever the text. -/
def atoiVal (l : List UInt8) : Int := match Lib.atoiAll l with | .ok v => v | .range => Lib.atoiSat l | _ => 0
def atoiOk (l : List UInt8) : Bool := match Lib.atoiAll l with | .ok _ => true | _ => false

theorem atoiVal_bounds (l : List UInt8) : -9223372036854775808 ≤ atoiVal l ∧ atoiVal l ≤ 9223372036854775807 := by
  unfold atoiVal
  split
  · exact Lib.atoiAll_bounds (by assumption)
  · unfold Lib.atoiSat; split <;> omega
  · omega

def ErrIs (ev : Value) (ok : Bool) : Prop := if ok then ev = .nilIface else ∃ N, ev = .iface 70 (.pointer (some ⟨N, 0, none⟩))

theorem atoi_any (s : ByteArray) (hs : s.size ≤ 281474976710656) (w : World) (hE : Env w) :
    Calls Tryd.prog 19 #[.string s] w fun e w' => ∃ ev, e = .returned (.tuple #[.int .i64 (atoiVal s.data.toList), ev]) ∧ ErrIs ev (atoiOk s.data.toList) ∧ Below w.heap.size w w' := by
  rcases h : Lib.atoiAll s.data.toList with v | _ | _
  · refine (Tryd.strconv_Atoi_ok s (by omega) v h w).mono ?_
    rintro e w' ⟨rfl, hw⟩
    refine ⟨.nilIface, by simp only [atoiVal, h], by simp [ErrIs, atoiOk, h], ?_⟩
    rcases hw with rfl | ⟨t, rfl⟩
    · exact Below.refl _ _
    · exact Joins.below_bytesWorld _ _ _ _ (Nat.le_refl _)
  · obtain ⟨te, pe, hv⟩ := hE.e2
    refine (Any.strconv_Atoi_syntax Tryd.laysC172 s hs h _ w hv (.inr ⟨te, pe, rfl⟩)).mono ?_
    rintro e w' ⟨N, rfl, _, _, hb⟩
    exact ⟨.iface 70 (.pointer (some ⟨N, 0, none⟩)), by simp only [atoiVal, h]; rfl, by simp [ErrIs, atoiOk, h], hb⟩
  · obtain ⟨te, pe, hv⟩ := hE.e3
    refine (Tryd.strconv_Atoi_range s hs h _ w hv (.inr ⟨te, pe, rfl⟩)).mono ?_
    rintro e w' ⟨N, rfl, _, _, hb⟩
    exact ⟨.iface 70 (.pointer (some ⟨N, 0, none⟩)), by simp only [atoiVal, h], by simp [ErrIs, atoiOk, h], hb⟩

def StrSl (w : World) (v : Value) (ss : List ByteArray) : Prop :=
  ∃ a cap, v = .slice a ss.length cap ∧ ∀ i, i < ss.length → ∃ b off, a = some ⟨b, off, none⟩ ∧ b < w.heap.size ∧ w.cell? ⟨b, off + i, none⟩ = some (.string (ss.getD i ByteArray.empty))

theorem cell_lt {w : World} {a : Addr} {v : Value} (h : w.cell? a = some v) : a.block < w.heap.size := by
  unfold World.cell? at h
  split at h
  · rename_i hh
    exact (Array.getElem?_eq_some_iff.1 hh).1
  · cases h

theorem below_two (w : World) (o1 o2 : Obj) : Below w.heap.size w ((w.alloc o1).alloc o2) := ((Below.refl _ _).alloc (Nat.le_refl _) _).alloc (by simp) _


theorem nil_ne (N : Nat) (w : World) : (binOp .eql 50 (.iface 70 (.pointer (some ⟨N, 0, none⟩))) .nilIface).run Tryd.prog w = .ok (.bool false) w :=
  run_eql_held_nil _ 50 70 _ (by kernel_rfl)
end Go.Proofs.YtiebedcldbmlhaaDoor
