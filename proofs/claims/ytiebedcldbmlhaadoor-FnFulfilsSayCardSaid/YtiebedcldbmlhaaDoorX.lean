/-
  The measure's function Fulfils, kind by kind. Conditions: the texts' cells are read in the world at hand; the tables of letters are laid.
-/
import Derived.Test.YtiebedcldbmlhaaDoorW
namespace Go.Proofs.YtiebedcldbmlhaaDoor
open Go.RowKit
open Fl (ns signOf isD ns_drop ns_len ns_end ns_lt ns_tail up)
set_option linter.unusedVariables false

/-- What the measure answers: open, or something that is as X says. -/
def Spec (X : Bool → Prop) (e : Ending) : Prop := ∃ (b : Bool) (y : Int), e = .returned (.tuple #[.bool b, .int .i64 y]) ∧ (y = 2 ∨ (y ≠ 2 ∧ X b))
theorem spec_open {X : Bool → Prop} {e : Ending} {b : Bool} (h : e = .returned (.tuple #[.bool b, .int .i64 2])) : Spec X e := ⟨b, 2, h, .inl rfl⟩
theorem spec_yes {X : Bool → Prop} {e : Ending} {b : Bool} (h : e = .returned (.tuple #[.bool b, .int .i64 1])) (hx : X b) : Spec X e := ⟨b, 1, h, .inr ⟨by decide, hx⟩⟩
theorem box_below (w : World) (o : Obj) : Below w.heap.size w (w.alloc o) := (Below.refl _ _).alloc (Nat.le_refl _) _

set_option maxHeartbeats 1000000 in
set_option maxRecDepth 100000 in
theorem spec1 (a : Option Addr) (m cap : Nat) (s : ByteArray) (w : World) :
    Calls Tryd.prog 10 #[.agg #[.int .i64 1, .slice a m cap], .string s] w fun e w' => Spec (fun b => b = true) e ∧ Below w.heap.size w w' := by
  go_enter Tryd.func10, Tryd.ntmps10
  go_wp2_with fail
  go_ret2
  exact ⟨spec_yes rfl rfl, box_below w _⟩

set_option maxHeartbeats 1000000 in
set_option maxRecDepth 100000 in
theorem spec2 (a : Option Addr) (m cap : Nat) (s : ByteArray) (w : World) (hs : s.size ≤ 1000000000) :
    Calls Tryd.prog 10 #[.agg #[.int .i64 2, .slice a m cap], .string s] w fun e w' => Spec (fun b => wsay s ≠ 2 ∧ b = (wsay s == 1)) e ∧ Below w.heap.size w w' := by
  obtain ⟨x, hx⟩ : ∃ x, x = wv s := ⟨_, rfl⟩
  obtain ⟨y, hy⟩ : ∃ y, y = wsay s := ⟨_, rfl⟩
  have hw : ∀ w, Calls Tryd.prog 13 #[.string s] w fun e w' => e = .returned (.tuple #[.int .i64 x, .int .i64 y]) ∧ w = w' := fun w => by rw [hx, hy]; exact whole_any s w hs
  rw [← hy]
  have HW := Lib.hid hw
  clear hw hx hy
  go_enter Tryd.func10, Tryd.ntmps10
  by_cases h2 : y = 2
  · subst h2
    go_wp2_with (refine (HW.out _).mono ?_; rintro e w' ⟨rfl, rfl⟩)
    go_ret2
    exact ⟨spec_open rfl, box_below w _⟩
  · have b1 : (y == 2) = false := beq_eq_false_iff_ne.2 h2
    have H2 := Lib.hid h2
    clear h2
    go_wp2_with (refine (HW.out _).mono ?_; rintro e w' ⟨rfl, rfl⟩)
    go_ret2
    exact ⟨spec_yes rfl ⟨H2.out, rfl⟩, box_below w _⟩

set_option maxHeartbeats 1000000 in
set_option maxRecDepth 100000 in
theorem spec3 (a : Option Addr) (m cap : Nat) (s : ByteArray) (w : World) :
    Calls Tryd.prog 10 #[.agg #[.int .i64 3, .slice a m cap], .string s] w fun e w' => Spec (fun b => b = (Lib.parseBool s.data.toList).isSome) e ∧ Below w.heap.size w w' := by
  go_enter Tryd.func10, Tryd.ntmps10
  go_wp2_with fail
  refine (truth_any s _).mono ?_
  rintro e w1 ⟨rfl, hb⟩
  have HB := Lib.hid ((box_below w _).trans (hb.mono (box_below w _).size))
  clear hb
  go_wp2_with fail
  go_ret2
  exact ⟨spec_yes rfl rfl, HB.out⟩

set_option maxHeartbeats 1000000 in
set_option maxRecDepth 100000 in
theorem spec4 (a : Option Addr) (m cap : Nat) (s : ByteArray) (w : World) (hs : s.size ≤ 1000000000) :
    Calls Tryd.prog 10 #[.agg #[.int .i64 4, .slice a m cap], .string s] w fun e w' => Spec (fun b => plainN (ns s) ≠ 2 ∧ b = (plainN (ns s) == 1)) e ∧ Below w.heap.size w w' := by
  obtain ⟨y, hy⟩ : ∃ y, y = plainN (ns s) := ⟨_, rfl⟩
  have hw : ∀ w, Calls Tryd.prog 15 #[.string s] w fun e w' => e = .returned (.int .i64 y) ∧ w' = w := fun w => by rw [hy]; exact plain_any s w hs
  rw [← hy]
  have HW := Lib.hid hw
  clear hw hy
  go_enter Tryd.func10, Tryd.ntmps10
  by_cases h2 : y = 2
  · subst h2
    go_wp2_with (refine (HW.out _).mono ?_; rintro e w' ⟨rfl, rfl⟩)
    go_ret2
    exact ⟨spec_open rfl, box_below w _⟩
  · have b1 : (y == 2) = false := beq_eq_false_iff_ne.2 h2
    have H2 := Lib.hid h2
    clear h2
    go_wp2_with (refine (HW.out _).mono ?_; rintro e w' ⟨rfl, rfl⟩)
    go_ret2
    exact ⟨spec_yes rfl ⟨H2.out, rfl⟩, box_below w _⟩

set_option maxHeartbeats 1000000 in
set_option maxRecDepth 100000 in
theorem spec5 (T : Nat → Nat × Nat) (B : Nat) (a : Option Addr) (m cap : Nat) (s : ByteArray) (w : World) (hE : EnvF T B w) (hs : s.size ≤ 1000000000) :
    Calls Tryd.prog 10 #[.agg #[.int .i64 5, .slice a m cap], .string s] w fun e w' => Spec (fun b => b = lettersGo s s.size 0) e ∧ Below w.heap.size w w' := by
  have HE := Lib.hid hE
  clear hE
  go_enter Tryd.func10, Tryd.ntmps10
  go_wp2_with fail
  refine (letters_any T B s _ (HE.out.below (box_below w _)) (by omega)).mono ?_
  rintro e w1 ⟨rfl, hb⟩
  have HB := Lib.hid ((box_below w _).trans (hb.mono (box_below w _).size))
  clear hb
  go_wp2_with fail
  go_ret2
  refine ⟨⟨(lettersN s).1, (lettersN s).2, rfl, ?_⟩, HB.out⟩
  unfold lettersN
  split
  · exact .inl rfl
  · exact .inr ⟨by simp, rfl⟩

set_option maxHeartbeats 1000000 in
set_option maxRecDepth 100000 in
theorem spec_other (X : Bool → Prop) (kind : Int) (a : Option Addr) (m cap : Nat) (s : ByteArray) (w : World) (hk : ∀ j : Int, (1 ≤ j ∧ j ≤ 5 ∨ 8 ≤ j ∧ j ≤ 14) → kind ≠ j) :
    Calls Tryd.prog 10 #[.agg #[.int .i64 kind, .slice a m cap], .string s] w fun e w' => Spec X e ∧ Below w.heap.size w w' := by
  have hb : ∀ j : Int, (1 ≤ j ∧ j ≤ 5 ∨ 8 ≤ j ∧ j ≤ 14) → (kind == j) = false := fun j h => beq_eq_false_iff_ne.2 (hk j h)
  have b1 := hb 1 (by omega)
  have b2 := hb 2 (by omega)
  have b3 := hb 3 (by omega)
  have b4 := hb 4 (by omega)
  have b5 := hb 5 (by omega)
  have b8 := hb 8 (by omega)
  have b9 := hb 9 (by omega)
  have b10 := hb 10 (by omega)
  have b11 := hb 11 (by omega)
  have b12 := hb 12 (by omega)
  have b13 := hb 13 (by omega)
  have b14 := hb 14 (by omega)
  clear hb hk
  go_enter Tryd.func10, Tryd.ntmps10
  go_wp2_with fail
  go_ret2
  exact ⟨spec_open rfl, box_below w _⟩
end Go.Proofs.YtiebedcldbmlhaaDoor
