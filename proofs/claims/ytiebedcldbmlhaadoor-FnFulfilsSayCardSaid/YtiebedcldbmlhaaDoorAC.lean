/-
  The law FnFulfilsSay returns true and writes nothing that was there. Conditions: the package-level variables are laid.
-/
import Derived.Test.YtiebedcldbmlhaaDoorAB
namespace Go.Proofs.YtiebedcldbmlhaaDoor
open Go.RowKit
open Fl (ns OkF NoF)
set_option linter.unusedVariables false

/-- The boxed constraint, in a world. -/
structure Box (w : World) (kind : Int) (dv : Value) (W : World) : Prop where
  below : Below w.heap.size w W
  size : w.heap.size + 1 ≤ W.heap.size
  c0 : W.cell? ⟨w.heap.size, 0, none⟩ = some (.int .i64 kind)
  c1 : W.cell? ⟨w.heap.size, 1, none⟩ = some dv
theorem Box.step {w : World} {kind : Int} {dv : Value} {W W' : World} (h : Box w kind dv W) (hb : Below W.heap.size W W') : Box w kind dv W' :=
  ⟨h.below.trans (hb.mono h.below.size), Nat.le_trans h.size hb.size, (hb.cell (p := ⟨w.heap.size, 0, none⟩) (cell_lt h.c0)).trans h.c0, (hb.cell (p := ⟨w.heap.size, 1, none⟩) (cell_lt h.c1)).trans h.c1⟩
theorem Box.mk0 (w : World) (kind : Int) (dv : Value) : Box w kind dv (w.alloc (.cells #[.int .i64 kind, dv] 25)) :=
  ⟨(Below.refl _ _).alloc (Nat.le_refl _) _, by simp, by simp [cell_alloc, objCell], by simp [cell_alloc, objCell]⟩
theorem two_one (w : World) (hE : Env w) : Calls Tryd.prog 6 #[.agg #[.int .i64 2, .slice none 0 0], .string ⟨#[49]⟩] w fun e w' => e = .returned (.bool true) ∧ Below w.heap.size w w' :=
  fulfils_nil 2 ⟨#[49]⟩ w hE (by decide) (by decide) true (fun p w' hb hc => check2 p 0 .nilIface ⟨#[49]⟩ w' (hE.below hb hE.size) (by decide) hc)
theorem two_x (w : World) (hE : Env w) : Calls Tryd.prog 6 #[.agg #[.int .i64 2, .slice none 0 0], .string ⟨#[120]⟩] w fun e w' => e = .returned (.bool false) ∧ Below w.heap.size w w' :=
  fulfils_nil 2 ⟨#[120]⟩ w hE (by decide) (by decide) false (fun p w' hb hc => check2 p 0 .nilIface ⟨#[120]⟩ w' (hE.below hb hE.size) (by decide) hc)
theorem shortB_all {ds : List ByteArray} (h : shortB ds = true) : ∀ i, i < ds.length → (ds.getD i ByteArray.empty).size ≤ 2000 := by
  unfold shortB at h
  rw [Bool.and_eq_true, List.all_eq_true] at h
  intro i hi
  have := h.1 ds[i] (List.getElem_mem _)
  simpa [List.getD, hi] using this

set_option maxHeartbeats 4000000 in
set_option maxRecDepth 100000 in
theorem say_walk (T : Nat → Nat × Nat) (B : Nat) (kind : Int) (a : Option Addr) (cap : Nat) (ds : List ByteArray) (s : ByteArray) (w : World) (hE : EnvF T B w) (hD : Dat w a cap ds) (hl : ds.length ≤ maxLen) (hs : s.size ≤ 140737488351232) :
    Calls Tryd.prog 5 #[.agg #[.int .i64 kind, .slice a ds.length cap], .string s] w fun e w' => e = .returned (.bool true) ∧ Below w.heap.size w w' := by
  have HX0 := Lib.hid (Box.mk0 w kind (.slice a ds.length cap))
  have HE := Lib.hid hE
  have HD := Lib.hid hD
  have HML := Lib.hid hl
  unfold maxLen at hl
  clear hE hD
  have hfit := fits6_of kind (.slice a ds.length cap) (fitsB ds) _ ⟨a, ds.length, cap, rfl⟩ (fun w' hb => ((HD.out.below HX0.out.below).below hb).fits HML.out)
  obtain ⟨F, hF⟩ : ∃ F, F = fitsB ds := ⟨_, rfl⟩
  rw [← hF] at hfit
  have HFIT := Lib.hid hfit
  clear hfit hF
  go_enter Tryd.func5, Tryd.ntmps5
  go_wp2_with fail
  refine HFIT.out.mono ?_
  rintro e w1 ⟨rfl, hb1⟩
  have hx1 := HX0.out.step hb1
  have c0 := hx1.c0
  have c1 := hx1.c1
  have HX1 := Lib.hid hx1
  clear hx1 hb1
  cases F with
  | false =>
    go_wp2_with fail
    go_ret
    exact ⟨rfl, HX1.out.below⟩
  | true =>
  by_cases hbig : 2147483647 < s.size
  · have b1 : decide ((2147483647 : Int) < (s.size : Int)) = true := decide_eq_true (by omega)
    clear hbig
    go_wp2_with fail
    go_ret
    exact ⟨rfl, HX1.out.below⟩
  have b1 : decide ((2147483647 : Int) < (s.size : Int)) = false := decide_eq_false (by omega)
  clear hbig
  go_wp2_with fail
  refine (two_one w1 (HE.out.below HX1.out.below).env).mono ?_
  rintro e w2 ⟨rfl, hb2⟩
  have HX2 := Lib.hid (HX1.out.step hb2)
  clear hb2 c0 c1
  go_wp2_with fail
  refine (two_x w2 (HE.out.below HX2.out.below).env).mono ?_
  rintro e w3 ⟨rfl, hb3⟩
  have hx3 := HX2.out.step hb3
  have c0 := hx3.c0
  have c1 := hx3.c1
  have HX3 := Lib.hid hx3
  clear hx3 hb3
  by_cases h300 : 300 < s.size
  · have b2 : decide ((300 : Int) < (s.size : Int)) = true := decide_eq_true (by omega)
    clear h300
    go_wp2_with fail
    go_ret
    exact ⟨rfl, HX3.out.below⟩
  have b2 : decide ((300 : Int) < (s.size : Int)) = false := decide_eq_false (by omega)
  by_cases h5 : 5 < ds.length
  · have b3 : decide ((5 : Int) < (ds.length : Int)) = true := decide_eq_true (by omega)
    clear h300 h5
    go_wp2_with fail
    go_ret
    exact ⟨rfl, HX3.out.below⟩
  have b3 : decide ((5 : Int) < (ds.length : Int)) = false := decide_eq_false (by omega)
  have hsz : s.size ≤ 300 := by omega
  have hlz : ds.length ≤ 5 := by omega
  clear h300 h5
  have hsh := (HD.out.below HX3.out.below).short HML.out
  cases hS : shortB ds with
  | false =>
    rw [hS] at hsh
    have HSH := Lib.hid hsh
    clear hsh hS
    go_wp2_with fail
    refine HSH.out.mono ?_
    rintro e w4 ⟨rfl, rfl⟩
    go_wp2_with fail
    go_ret
    exact ⟨rfl, HX3.out.below⟩
  | true =>
    rw [hS] at hsh
    have HSH := Lib.hid hsh
    have HM := Lib.hid (show Mod s ds from ⟨hsz, hlz, shortB_all hS⟩)
    clear hsh hS
    go_wp2_with fail
    refine HSH.out.mono ?_
    rintro e w4 ⟨rfl, rfl⟩
    go_wp2_with fail
    refine (law_spec kind (HE.out.below HX3.out.below) (HD.out.below HX3.out.below) HM.out).mono ?_
    rintro e w4 ⟨⟨b, y, rfl, hor⟩, hb4⟩
    have HB4 := Lib.hid hb4
    have hx4 := HX3.out.step hb4
    have c2 := hx4.c0
    have c3 := hx4.c1
    have HX4 := Lib.hid hx4
    clear hb4 hx4 c0 c1
    rcases hor with rfl | ⟨hy, himp⟩
    · go_wp2_with fail
      go_ret
      exact ⟨rfl, HX4.out.below⟩
    · have b4 : (y == 2) = false := beq_eq_false_iff_ne.2 hy
      have HIMP := Lib.hid (himp w4 HB4.out)
      clear hy himp
      go_wp2_with fail
      refine HIMP.out.mono ?_
      rintro e w5 ⟨rfl, hb5⟩
      have HX5 := Lib.hid (HX4.out.step hb5)
      clear hb5
      go_wp2_with fail
      go_ret
      exact ⟨by cases b <;> rfl, HX5.out.below⟩
end Go.Proofs.YtiebedcldbmlhaaDoor
