/-
  The laws' first check, matches; what a match of one value gives. Conditions: the table that Itoa reads.
-/
import Derived.Test.YtiebedcldbmlhaaGreatDoorZ
import Derived.Test.YtiebedcldbmlhaaGreatDoorQ
import Derived.Test.YtiebedcldbmlhaaGreatDoorAA
namespace Go.Proofs.YtiebedcldbmlhaaGreatDoor
open Go.RowKit
set_option linter.unusedVariables false

theorem matched_one {w w' : World} {u : Bs} {v : Value} {is : Bool} (h : Matched w (some [u]) w' v is) : is = true ∧ ∃ g cap, v = .slice (some ⟨g, 0, none⟩) 1 cap ∧ w'.cell? ⟨g, 0, none⟩ = some (.string (bs u)) := by
  obtain ⟨h1, h2⟩ := h
  obtain ⟨g, cap, h3, _, _, h4⟩ := own_some h2 (by simp)
  exact ⟨h1, g, cap, h3, h4 0 _ rfl⟩
theorem matched_none {w w' : World} {v : Value} {is : Bool} (h : Matched w none w' v is) : is = false ∧ v = .slice none 0 0 := h

theorem two_parts : PtsOk [([97], none), ([98], some [99])] := by
  intro x hx
  simp only [List.mem_cons, List.not_mem_nil, or_false] at hx
  rcases hx with rfl | rfl
  · exact ⟨⟨by simp, by intro y hy; simp at hy; subst hy; decide⟩, by intro v hv; cases hv⟩
  · exact ⟨⟨by simp, by intro y hy; simp at hy; subst hy; decide⟩, by intro v hv; cases hv; exact ⟨by simp, by intro y hy; simp at hy; subst hy; decide⟩⟩
theorem sizes_small (l : Bs) : (⟨l.toArray⟩ : ByteArray).data.toList = l := rfl

set_option maxHeartbeats 1000000 in
set_option maxRecDepth 100000 in
theorem matches_any (w : World) (hE : EnvZ w) : Calls Tryz.prog 15 #[] w fun e w' => e = .returned (.bool true) ∧ Below w.heap.size w w' := by
  obtain ⟨T, hT, hS⟩ := parse_pts [([97], none), ([98], some [99])] two_parts (by decide)
  have hm := made_pts chk0 false _ two_parts T hS
  have hcall := values_any ⟨#[47, 97, 47, 58, 98]⟩ ⟨#[47, 97, 47, 99]⟩ false w hE (by decide) (by decide) (by decide) (by intro x hx; have h : x ∈ ([47, 97, 47, 58, 98] : Bs) := hx; simp at h; rcases h with rfl | rfl | rfl | rfl | rfl <;> decide) T _ hT
  have hr : mres T false (⟨#[47, 97, 47, 99]⟩ : ByteArray).data.toList = some [[99]] := hm
  rw [hr] at hcall
  have HC := Lib.hid hcall
  clear hcall hT hS hm hr hE
  go_enter Tryz.func15, Tryz.ntmps15
  go_wp2_with fail
  refine HC.out.mono ?_
  rintro e w1 ⟨v, is, rfl, hb, hm⟩
  obtain ⟨rfl, g, cap, rfl, hc⟩ := matched_one hm
  have hc' : w1.cell? ⟨g, 0, none⟩ = some (.string ⟨#[99]⟩) := hc
  have HB := Lib.hid hb
  clear hm hc hb
  go_wp2_with fail
  go_ret
  exact ⟨rfl, HB.out⟩
end Go.Proofs.YtiebedcldbmlhaaGreatDoor
