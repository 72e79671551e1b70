/-
  The thin function Fulfils hands a constraint without data on to CheckConstraint. Conditions: a nil list of data.
-/
import Derived.Test.YtiebedcldbmlhaaDoorF
import Derived.Test.YtiebedcldbmlhaaDoorD
import Derived.Test.YtiebedcldbmlhaaDoorE
namespace Go.Proofs.YtiebedcldbmlhaaDoor
open Go.RowKit
set_option linter.unusedVariables false

set_option maxHeartbeats 1000000 in
set_option maxRecDepth 100000 in
theorem fulfils_nil (kind : Int) (s : ByteArray) (w : World) (hE : Env w) (hk1 : 1 ≤ kind) (hk2 : kind ≤ 15) (X : Bool)
    (hX : ∀ (p : Nat) (w' : World), Below w.heap.size w w' → w'.cell? ⟨p, 0, none⟩ = some (.int .i16 kind) →
      Calls Tryd.prog 11 #[.pointer (some ⟨p, 0, none⟩), .string s] w' fun e w'' => e = .returned (.bool X) ∧ Below w'.heap.size w' w'') :
    Calls Tryd.prog 6 #[.agg #[.int .i64 kind, .slice none 0 0], .string s] w fun e w' => e = .returned (.bool X) ∧ Below w.heap.size w w' := by
  have HX := Lib.hid hX
  clear hX
  obtain ⟨i0, hi, hz0, hz1, hz2⟩ := info_parts info9
  have hwr : IntKind.i16.wrap kind = kind := wrap16 kind (by omega) (by omega)
  go_enter Tryd.func6, Tryd.ntmps6
  go_wp2
  go_region_held3 (fun w' => w'.cell? ⟨w.heap.size, 0, none⟩ = some (.int .i64 kind) ∧ w'.cell? ⟨w.heap.size, 1, none⟩ = some (.slice none 0 0)) (first | (go_keep; done) | (go_split_ands; refine ⟨?_, ?_⟩ <;> (rw [World.cell?_setCell_far _ _ _ _ (by simp; try omega), World.cell?_setCell_far _ _ _ _ (by simp; try omega)]; assumption)))
    (fail)
  all_goals
    go_wp2_with fail
    refine (HX.out _ _ (by repeat (first | exact Below.refl _ _ | refine Below.drew ?_ | refine Below.alloc ?_ (by simp; try omega) _)) (by simp [cell_alloc, objCell])).mono ?_
    rintro e w2 ⟨rfl, hb2⟩
    have HB := Lib.hid (Below.trans (show Below w.heap.size w _ from (by repeat (first | exact Below.refl _ _ | refine Below.drew ?_ | refine Below.alloc ?_ (by simp; try omega) _))) (hb2.mono (by simp; try omega)))
    clear hb2
    go_wp2
    go_ret
    exact ⟨rfl, HB.out⟩
end Go.Proofs.YtiebedcldbmlhaaDoor
