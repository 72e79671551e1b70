/-
  Segments in a row in memory, and what addParameterMetaInfo does to them. Conditions: of a size that addresses allow.
-/
import Derived.Test.YtiebedcldbmlhaaGreatDoorK
import Derived.Deep.DeepCutAuto
namespace Go.Proofs.YtiebedcldbmlhaaGreatDoor
open Go.RowKit
set_option linter.unusedVariables false

/-- Segments, each in its block. -/
def SegsIn (w : World) (gs : List Nat) (L : List Seg) (cvs : List Value) : Prop :=
  gs.length = L.length ∧ cvs.length = L.length ∧ ∀ (i : Nat) (x : Seg), L[i]? = some x → ∃ (g : Nat) (cv : Value), gs[i]? = some g ∧ cvs[i]? = some cv ∧ SegObj w g x cv

/-- Of what was there only these blocks have changed. -/
structure Touch (gs : List Nat) (w w' : World) : Prop where
  os : w'.os = w.os
  tape : w'.tape = w.tape
  output : w'.output = w.output
  size : w.heap.size ≤ w'.heap.size
  block : ∀ k, k < w.heap.size → k ∉ gs → w'.heap[k]? = w.heap[k]?

theorem Touch.refl (gs : List Nat) (w : World) : Touch gs w w := ⟨rfl, rfl, rfl, Nat.le_refl _, fun _ _ _ => rfl⟩
theorem Touch.trans {gs : List Nat} {a b c : World} (h : Touch gs a b) (k : Touch gs b c) : Touch gs a c :=
  ⟨k.os.trans h.os, k.tape.trans h.tape, k.output.trans h.output, Nat.le_trans h.size k.size, fun j hj hn => (k.block j (Nat.lt_of_lt_of_le hj h.size) hn).trans (h.block j hj hn)⟩
theorem touch_below {gs : List Nat} {w w' : World} (h : Below w.heap.size w w') : Touch gs w w' := ⟨h.os, h.tape, h.output, h.size, fun k hk _ => h.block k hk⟩
theorem touch_set {gs : List Nat} {w : World} {g i : Nat} (v : Value) (h : g ∈ gs) : Touch gs w (w.setCell ⟨g, i, none⟩ v) :=
  ⟨rfl, rfl, rfl, by simp, fun k hk hn => Below.heap_setCell w ⟨g, i, none⟩ v k (fun e => hn (by rw [e]; exact h))⟩
theorem touch_cell {gs : List Nat} {w w' : World} (h : Touch gs w w') {r i : Nat} {v : Value} (hr : r ∉ gs) (hc : w.cell? ⟨r, i, none⟩ = some v) : w'.cell? ⟨r, i, none⟩ = some v :=
  (World.cell?_of_block (a := ⟨r, i, none⟩) (h.block r (cell_lt hc) hr)).trans hc

theorem segobj_set {w : World} {g i : Nat} {x x' : Seg} {cv : Value} (v : Value) (h : SegObj w g x cv) (hx : (segCells x cv).set i v = segCells x' cv) : SegObj (w.setCell ⟨g, i, none⟩ v) g x' cv := by
  have h' : w.heap[g]? = some (.cells (segCells x cv).toArray 99 (0, 0)) := h
  show (w.setCell ⟨g, i, none⟩ v).heap[g]? = some (.cells (segCells x' cv).toArray 99 (0, 0))
  rw [← hx]
  simp [World.setCell, Array.getElem?_modify, h']
theorem segobj_other {w : World} {g k i : Nat} {x : Seg} {cv : Value} (v : Value) (h : SegObj w g x cv) (hk : g ≠ k) : SegObj (w.setCell ⟨k, i, none⟩ v) g x cv :=
  (Below.heap_setCell w ⟨k, i, none⟩ v g hk).trans h

theorem SegsIn.below {w w' : World} {gs : List Nat} {L : List Seg} {cvs : List Value} (h : SegsIn w gs L cvs) (hb : Below w.heap.size w w') : SegsIn w' gs L cvs :=
  ⟨h.1, h.2.1, fun i x hx => by obtain ⟨g, cv, h1, h2, h3⟩ := h.2.2 i x hx; exact ⟨g, cv, h1, h2, h3.below hb h3.lt⟩⟩
theorem SegsIn.set {w : World} {gs : List Nat} {L : List Seg} {cvs : List Value} (h : SegsIn w gs L cvs) (hn : gs.Nodup) {i f g : Nat} {x x' : Seg} {cv : Value} (v : Value)
    (hx : L[i]? = some x) (hg : gs[i]? = some g) (hcv : cvs[i]? = some cv) (hs : (segCells x cv).set f v = segCells x' cv) : SegsIn (w.setCell ⟨g, f, none⟩ v) gs (L.set i x') cvs := by
  refine ⟨by rw [List.length_set]; exact h.1, by rw [List.length_set]; exact h.2.1, fun j y hy => ?_⟩
  by_cases hj : j = i
  · subst hj
    have hlt := (List.getElem?_eq_some_iff.1 hx).1
    rw [List.getElem?_set_self hlt] at hy
    cases hy
    obtain ⟨g', cv', h1, h2, h3⟩ := h.2.2 j x hx
    rw [hg] at h1; rw [hcv] at h2
    cases h1; cases h2
    exact ⟨g, cv, hg, hcv, segobj_set v h3 hs⟩
  · rw [List.getElem?_set_ne (fun e => hj e.symm)] at hy
    obtain ⟨g', cv', h1, h2, h3⟩ := h.2.2 j y hy
    refine ⟨g', cv', h1, h2, segobj_other v h3 ?_⟩
    rintro rfl
    obtain ⟨a1, b1⟩ := List.getElem?_eq_some_iff.1 h1
    obtain ⟨a2, b2⟩ := List.getElem?_eq_some_iff.1 hg
    exact hj ((List.getElem_inj hn).1 (b1.trans b2.symm))

theorem cmpBack_param {x : Seg} {r : List Seg} (h : x.isParam = true) : cmpBack (x :: r) = ({ x with cmp := unesc (cmpBack r).2 } :: (cmpBack r).1, (cmpBack r).2) := by
  simp [cmpBack, h]
theorem cmpBack_const {x : Seg} {r : List Seg} (h : x.isParam = false) : cmpBack (x :: r) = (x :: (cmpBack r).1, if 1 < x.const.length then trimRight x.const 47 else x.const) := by
  simp [cmpBack, h]
/-- The segments behind so many rounds. -/
def backAt (L : List Seg) (k : Nat) : List Seg := L.take k ++ (cmpBack (L.drop k)).1
theorem cmpBack_length : ∀ L : List Seg, (cmpBack L).1.length = L.length
  | [] => rfl
  | x :: r => by
    cases h : x.isParam with
    | true => rw [cmpBack_param h]; simp [cmpBack_length r]
    | false => rw [cmpBack_const h]; simp [cmpBack_length r]
theorem backAt_get {L : List Seg} {k : Nat} {x : Seg} (h : L[k]? = some x) : (backAt L (k + 1))[k]? = some x := by
  have hk := (List.getElem?_eq_some_iff.1 h).1
  unfold backAt
  rw [List.getElem?_append_left (by rw [List.length_take]; omega), List.getElem?_take_of_lt (by omega)]
  exact h
theorem drop_step {L : List Seg} {k : Nat} {x : Seg} (h : L[k]? = some x) : L.drop k = x :: L.drop (k + 1) := by
  obtain ⟨hk, he⟩ := List.getElem?_eq_some_iff.1 h
  rw [List.drop_eq_getElem_cons hk, he]
theorem take_step {L : List Seg} {k : Nat} {x : Seg} (h : L[k]? = some x) : L.take (k + 1) = L.take k ++ [x] := by
  obtain ⟨hk, he⟩ := List.getElem?_eq_some_iff.1 h
  rw [List.take_succ_eq_append_getElem hk, he]
theorem backAt_param {L : List Seg} {k : Nat} {x : Seg} (h : L[k]? = some x) (hp : x.isParam = true) : backAt L k = (backAt L (k + 1)).set k { x with cmp := unesc (cmpBack (L.drop (k + 1))).2 } := by
  have hk := (List.getElem?_eq_some_iff.1 h).1
  unfold backAt
  rw [drop_step h, cmpBack_param hp, take_step h, List.append_assoc, List.set_append_right _ _ (by rw [List.length_take]; omega)]
  have : k - (L.take k).length = 0 := by rw [List.length_take]; omega
  rw [this]
  rfl
theorem backAt_const {L : List Seg} {k : Nat} {x : Seg} (h : L[k]? = some x) (hp : x.isParam = false) : backAt L k = backAt L (k + 1) := by
  unfold backAt
  rw [drop_step h, cmpBack_const hp, take_step h, List.append_assoc]
  rfl
end Go.Proofs.YtiebedcldbmlhaaGreatDoor
