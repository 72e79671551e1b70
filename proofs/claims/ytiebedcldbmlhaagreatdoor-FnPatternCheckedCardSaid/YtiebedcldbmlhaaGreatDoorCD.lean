/-
  The thin function Fulfils hands a constraint on to CheckConstraint. Conditions: at most a thousand data.
-/
import Derived.Test.YtiebedcldbmlhaaGreatDoorCB
import Derived.Test.YtiebedcldbmlhaaGreatDoorCC
import Derived.Test.YtiebedcldbmlhaaGreatDoorAA
namespace Go.Proofs.YtiebedcldbmlhaaGreatDoor
open Go.RowKit
set_option linter.unusedVariables false

theorem strs_cells {w : World} {b off : Nat} {ds : List ByteArray} (h : StrCells w b off ds) : ∀ j u, (ds.map Value.string)[j]? = some u → w.cell? ((⟨b, off, none⟩ : Addr).add j) = some u := by
  intro j u hu
  rw [List.getElem?_map] at hu
  obtain ⟨s, hs, rfl⟩ := Option.map_eq_some_iff.1 hu
  obtain ⟨hj, hs'⟩ := List.getElem?_eq_some_iff.1 hs
  have := h j hj
  have e : (⟨b, off, none⟩ : Addr).add j = ⟨b, off + j, none⟩ := by
    unfold Addr.add; split
    · rename_i h0; simp_all
    · rfl
  rw [e, this]; simp [List.getD, hs]

theorem strs_one (ds : List ByteArray) : ∀ u ∈ ds.map Value.string, u.oneCell' = true := by
  intro u hu
  obtain ⟨s, _, rfl⟩ := List.mem_map.1 hu
  rfl

theorem StrCells.below {B : Nat} {w w' : World} {b off : Nat} {ds : List ByteArray} (h : StrCells w b off ds) (hb : Below B w w') (hB : b < B) : StrCells w' b off ds :=
  fun i hi => (hb.cell (p := ⟨b, off + i, none⟩) hB).trans (h i hi)

theorem strs_of_cells {w : World} {g : Nat} {ds : List ByteArray} (h : ∀ j u, (ds.map Value.string)[j]? = some u → w.cell? ⟨g, j, none⟩ = some u) : StrCells w g 0 ds := by
  intro i hi
  have := h i (.string (ds.getD i ByteArray.empty)) (by rw [List.getElem?_map]; simp [List.getD, hi])
  simpa using this

/-- What the call of CheckConstraint finds. -/
def Ready (w : World) (kind : Int) (p g n cap : Nat) (ds : List ByteArray) (W : World) : Prop :=
  Below w.heap.size w W ∧ W.cell? ⟨p, 0, none⟩ = some (.int .i16 kind) ∧ W.cell? ⟨p, 1, none⟩ = some (.slice (some ⟨g, 0, none⟩) n cap) ∧ StrCells W g 0 ds

theorem ready_set {w w0 w1 : World} {kind : Int} {p g n cap : Nat} {ds : List ByteArray} {u v : Value} (h0 : Below w.heap.size w w0) (hg : w0.grownBy w1 none) (hp : w.heap.size ≤ p) (hgp : w0.heap.size ≤ g)
    (hcs : ∀ j u, (ds.map Value.string)[j]? = some u → w1.cell? ⟨g, j, none⟩ = some u) (c0 : w0.cell? ⟨p, 0, none⟩ = some u) (c1 : w0.cell? ⟨p, 1, none⟩ = some v) :
    Ready w kind p g n cap ds ((w1.setCell ⟨p, 0, none⟩ (.int .i16 kind)).setCell ⟨p, 1, none⟩ (.slice (some ⟨g, 0, none⟩) n cap)) := by
  have hl := cell_lt c0
  have d0 := old_cell hg c0
  have d1 := old_cell hg c1
  have hpg : p ≠ g := by simp at hl; omega
  refine ⟨((h0.trans ((below_grown hg).mono h0.size)).setCell hp _).setCell hp _, ?_, ?_, strs_of_cells fun j u hu => ?_⟩
  · rw [World.cell?_setCell_other _ _ _ _ (by simp)]
    exact World.cell?_setCell_same _ _ _ d0
  · exact World.cell?_setCell_same _ _ _ ((World.cell?_setCell_other _ _ _ _ (by simp)).trans d1)
  · rw [World.cell?_setCell_far _ _ _ _ hpg, World.cell?_setCell_far _ _ _ _ hpg]
    exact hcs j u hu

theorem ready_alloc {w w0 w1 : World} {kind : Int} {g n cap : Nat} {ds : List ByteArray} (h0 : Below w.heap.size w w0) (hg : w0.grownBy w1 none) 
    (hcs : ∀ j u, (ds.map Value.string)[j]? = some u → w1.cell? ⟨g, j, none⟩ = some u) :
    Ready w kind w1.heap.size g n cap ds (w1.alloc (.cells #[.int .i16 kind, .slice (some ⟨g, 0, none⟩) n cap] 66)) := by
  have hb := h0.trans ((below_grown hg).mono h0.size)
  refine ⟨hb.alloc hb.size _, by simp, by simp, strs_of_cells fun j u hu => ?_⟩
  have := hcs j u hu
  rw [World.cell?_alloc_lt _ _ _ (cell_lt this)]
  exact this

set_option maxHeartbeats 1000000 in
set_option maxRecDepth 100000 in
theorem fulfils_some (kind : Int) (b off n cap : Nat) (s : ByteArray) (ds : List ByteArray) (w : World) (hE : EnvC w) (hk1 : 1 ≤ kind) (hk2 : kind ≤ 15) (hn : 1 ≤ n) (hds : ds.length = n) (hmax : n ≤ 1000)
    (hc : StrCells w b off ds) (X : Bool) 
    (hX : ∀ (p g cap' : Nat) (w' : World), Below w.heap.size w w' → w'.cell? ⟨p, 0, none⟩ = some (.int .i16 kind) → w'.cell? ⟨p, 1, none⟩ = some (.slice (some ⟨g, 0, none⟩) n cap') → StrCells w' g 0 ds → 
      Calls Tryz.prog 34 #[.pointer (some ⟨p, 0, none⟩), .string s] w' fun e w'' => e = .returned (.bool X) ∧ Below w'.heap.size w' w'') :
    Calls Tryz.prog 26 #[.agg #[.int .i64 kind, .slice (some ⟨b, off, none⟩) n cap], .string s] w fun e w' => e = .returned (.bool X) ∧ Below w.heap.size w w' := by
  have hb : b < w.heap.size := by have := cell_lt (hc 0 (by omega)); exact this
  have hlen : (ds.map Value.string).length = n := by simp [hds]
  have HX := Lib.hid hX
  clear hX
  have HW := Lib.hid (fun (w' : World) (h : Below w.heap.size w w') => strs_cells (hc.below h hb))
  have HC := Lib.hid hc
  clear hc
  have HD := Lib.hid hds
  have HL := Lib.hid hlen
  clear hlen
  clear hds
  obtain ⟨i0, hi, hz0, hz1, hz2⟩ := info_parts info9
  have hwr : IntKind.i16.wrap kind = kind := wrap16 kind (by omega) (by omega)
  go_enter Tryz.func26, Tryz.ntmps26
  go_wp2
  go_region_held3 (fun w' => w'.cell? ⟨w.heap.size, 0, none⟩ = some (.int .i64 kind) ∧ w'.cell? ⟨w.heap.size, 1, none⟩ = some (.slice (some ⟨b, off, none⟩) n cap)) (first | (go_keep; done) | (go_split_ands; refine ⟨?_, ?_⟩ <;> (rw [World.cell?_setCell_far _ _ _ _ (by simp; try omega), World.cell?_setCell_far _ _ _ _ (by simp; try omega)]; assumption)))
    ((refine step_append_new rfl _ _ 22 (by rfl) 9 i0 (.string ⟨#[]⟩) 16 Tryz.underlying22 hi hz0 hz1 hz2 rfl _ (by rfl) ⟨b, off, none⟩ n cap (ds.map Value.string) (by rfl) HL.out (HW.out _ (by repeat (first | exact Below.refl _ _ | refine Below.drew ?_ | refine Below.alloc ?_ (by simp; try omega) _))) (strs_one ds) (by omega) (by unfold maxLen; omega) (by omega) ?_; intro g cap' w1 hg1 hg2 hcs hgrow; have k0 : w1.cell? ⟨w.heap.size, 0, none⟩ = some (.int .i64 kind) := old_cell hgrow (by (go_split_ands; assumption)); have k1 : w1.cell? ⟨w.heap.size, 1, none⟩ = some (.slice (some ⟨b, off, none⟩) n cap) := old_cell hgrow (by (go_split_ands; assumption)); have kz := cell_lt k0; obtain ⟨kc, kf⟩ := bcell (below_grown hgrow)))
  · have F := Lib.hid (ready_alloc (w := w) (kind := kind) (cap := cap') (n := n) (by repeat (first | exact Below.refl _ _ | refine Below.drew ?_ | refine Below.alloc ?_ (by simp; try omega) _)) hgrow hcs)
    clear kc kf hgrow hcs k0 k1 kz hg1 hg2
    go_wp2_with fail
    have HY := Lib.hid (HX.out _ g cap' _ F.out.1 F.out.2.1 F.out.2.2.1 F.out.2.2.2)
    with_reducible refine HY.out.mono ?_
    rintro e w2 ⟨rfl, hb2⟩
    have HB := Lib.hid (F.out.1.trans (hb2.mono F.out.1.size))
    clear hb2
    go_wp2
    go_ret
    exact ⟨rfl, HB.out⟩
  · have F := Lib.hid (ready_set (w := w) (kind := kind) (cap := cap') (n := n) (p := w.heap.size + 1 + 1) (by repeat (first | exact Below.refl _ _ | refine Below.drew ?_ | refine Below.alloc ?_ (by simp; try omega) _)) hgrow (by omega) hg1 hcs (u := .int .i16 0) (v := .slice none 0 0) (by simp [cell_alloc, objCell]) (by simp [cell_alloc, objCell]))
    clear kc kf hgrow hcs k0 k1 kz hg1 hg2
    go_wp2_with fail
    have HY := Lib.hid (HX.out _ g cap' _ F.out.1 F.out.2.1 F.out.2.2.1 F.out.2.2.2)
    with_reducible refine HY.out.mono ?_
    rintro e w2 ⟨rfl, hb2⟩
    have HB := Lib.hid (F.out.1.trans (hb2.mono F.out.1.size))
    clear hb2
    go_wp2
    go_ret
    exact ⟨rfl, HB.out⟩
  · have F := Lib.hid (ready_set (w := w) (kind := kind) (cap := cap') (n := n) (p := w.heap.size + 1) (by repeat (first | exact Below.refl _ _ | refine Below.drew ?_ | refine Below.alloc ?_ (by simp; try omega) _)) hgrow (by omega) hg1 hcs (u := .int .i16 0) (v := .slice none 0 0) (by simp [cell_alloc, objCell]) (by simp [cell_alloc, objCell]))
    clear kc kf hgrow hcs k0 k1 kz hg1 hg2
    go_wp2_with fail
    have HY := Lib.hid (HX.out _ g cap' _ F.out.1 F.out.2.1 F.out.2.2.1 F.out.2.2.2)
    with_reducible refine HY.out.mono ?_
    rintro e w2 ⟨rfl, hb2⟩
    have HB := Lib.hid (F.out.1.trans (hb2.mono F.out.1.size))
    clear hb2
    go_wp2
    go_ret
    exact ⟨rfl, HB.out⟩
set_option maxHeartbeats 1000000 in
set_option maxRecDepth 100000 in
theorem fulfils_nil (kind : Int) (s : ByteArray) (w : World) (hE : EnvC w) (hk1 : 1 ≤ kind) (hk2 : kind ≤ 15) (X : Bool)
    (hX : ∀ (p : Nat) (w' : World), Below w.heap.size w w' → w'.cell? ⟨p, 0, none⟩ = some (.int .i16 kind) →
      Calls Tryz.prog 34 #[.pointer (some ⟨p, 0, none⟩), .string s] w' fun e w'' => e = .returned (.bool X) ∧ Below w'.heap.size w' w'') :
    Calls Tryz.prog 26 #[.agg #[.int .i64 kind, .slice none 0 0], .string s] w fun e w' => e = .returned (.bool X) ∧ Below w.heap.size w w' := by
  have HX := Lib.hid hX
  clear hX
  obtain ⟨i0, hi, hz0, hz1, hz2⟩ := info_parts info9
  have hwr : IntKind.i16.wrap kind = kind := wrap16 kind (by omega) (by omega)
  go_enter Tryz.func26, Tryz.ntmps26
  go_wp2
  go_region_held3 (fun w' => w'.cell? ⟨w.heap.size, 0, none⟩ = some (.int .i64 kind) ∧ w'.cell? ⟨w.heap.size, 1, none⟩ = some (.slice none 0 0)) (first | (go_keep; done) | (go_split_ands; refine ⟨?_, ?_⟩ <;> (rw [World.cell?_setCell_far _ _ _ _ (by simp; try omega), World.cell?_setCell_far _ _ _ _ (by simp; try omega)]; assumption)))
    (fail)
  all_goals
    go_wp2_with fail
    refine (HX.out _ _ (by repeat (first | exact Below.refl _ _ | refine Below.drew ?_ | refine Below.alloc ?_ (by simp; try omega) _)) (by simp [cell_alloc, objCell])).mono ?_
    rintro e w2 ⟨rfl, hb2⟩
    have HB := Lib.hid (Below.trans (show Below w.heap.size w _ from (by repeat (first | exact Below.refl _ _ | refine Below.drew ?_ | refine Below.alloc ?_ (by simp; try omega) _))) (hb2.mono (by simp; try omega)))
    clear hb2
    go_wp2
    go_ret
    exact ⟨rfl, HB.out⟩
end Go.Proofs.YtiebedcldbmlhaaGreatDoor
