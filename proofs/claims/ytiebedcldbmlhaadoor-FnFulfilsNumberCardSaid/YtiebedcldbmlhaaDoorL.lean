/-
  The law FnFulfilsLength returns true and writes nothing that was there. Conditions: the package-level errors hold interface values.
-/
import Derived.Test.YtiebedcldbmlhaaDoorH
namespace Go.Proofs.YtiebedcldbmlhaaDoor
open Go.RowKit
set_option linter.unusedVariables false

theorem two_digits : bs (Lib.decDigits (2 : Int).toNat) = ⟨#[50]⟩ := by
  have : Lib.decDigits 2 = [50] := Lib.decDigits_one (by decide)
  show bs (Lib.decDigits 2) = _
  rw [this]

theorem ful_two (kind : Int) (s : ByteArray) (X : Bool) (w : World) (hE : Env w)
    (h : ∀ b off cap w', Env w' → w'.cell? ⟨b, off, none⟩ = some (.string (bs (Lib.decDigits (2 : Int).toNat))) → Calls Tryd.prog 6 #[.agg #[.int .i64 kind, .slice (some ⟨b, off, none⟩) 1 cap], .string s] w' fun e w'' => e = .returned (.bool X) ∧ Below w'.heap.size w' w'') :
    Calls Tryd.prog 6 #[.agg #[.int .i64 kind, .slice (some ⟨w.heap.size, 0, none⟩) 1 1], .string s] (w.alloc (.cells #[.string ⟨#[50]⟩] 9)) fun e w'' => e = .returned (.bool X) ∧ Below w.heap.size w w'' :=
  (h w.heap.size 0 1 _ (hE.below ((Below.refl _ _).alloc (Nat.le_refl _) _) hE.size) (by rw [two_digits]; simp [cell_alloc, objCell])).mono fun e w'' ⟨he, hb⟩ => ⟨he, ((Below.refl _ _).alloc (Nat.le_refl _) _).trans (hb.mono (by simp))⟩

theorem short_one (s : ByteArray) (w : World) (v : Bool) (hv : decide (s.size ≤ 2000) = v) : Calls Tryd.prog 7 #[.slice (some ⟨w.heap.size, 0, none⟩) 1 1] (w.alloc (.cells #[.string s] 9)) fun e w' => e = .returned (.bool v) ∧ w.alloc (.cells #[.string s] 9) = w' :=
  (short_some w.heap.size 0 1 [s] _ (by simp [maxLen]) (cells_one (by simp [cell_alloc, objCell]))).mono fun e w' ⟨he, hw⟩ => ⟨by rw [he, ← hv]; simp [shortB], hw⟩

/-- The two lists of numbers, in a world. -/
structure Two (w : World) (x y : Nat) (a b : Int) (W : World) : Prop where
  env : Env W
  below : Below w.heap.size w W
  cx : W.cell? ⟨x, 0, none⟩ = some (.string (bs (Lib.decDigits a.toNat)))
  cy : W.cell? ⟨y, 0, none⟩ = some (.string (bs (Lib.decDigits a.toNat)))
  cz : W.cell? ⟨y, 0 + 1, none⟩ = some (.string (bs (Lib.decDigits b.toNat)))
theorem Two.step {w : World} {x y : Nat} {a b : Int} {W W' : World} (h : Two w x y a b W) (hb : Below W.heap.size W W') : Two w x y a b W' :=
  ⟨h.env.below hb h.env.size, h.below.trans (hb.mono h.below.size), (hb.cell (p := ⟨x, 0, none⟩) (cell_lt h.cx)).trans h.cx, (hb.cell (p := ⟨y, 0, none⟩) (cell_lt h.cy)).trans h.cy, (hb.cell (p := ⟨y, 0 + 1, none⟩) (cell_lt h.cz)).trans h.cz⟩

set_option maxHeartbeats 2000000 in
set_option maxRecDepth 100000 in
theorem length_walk (s : ByteArray) (a b : Int) (w : World) (hE : Env w) (hs : s.size ≤ 140737488351232) (hS : s.size ≤ 2147483647) :
    Calls Tryd.prog 3 #[.string s, .int .i64 a, .int .i64 b] w fun e w' => e = .returned (.bool true) ∧ Below w.heap.size w w' := by
  go_enter Tryd.func3, Tryd.ntmps3
  go_wp2_with fail
  refine (ful_two 10 ⟨#[97, 98]⟩ true w hE (fun b off cap w' h1 h2 => ful10 2 (by decide) (by decide) b off cap ⟨#[97, 98]⟩ w' h1 (by decide) h2)).mono ?_
  rintro e w1 ⟨rfl, hb1⟩
  have hE1 := hE.below hb1 hE.size
  have H1 := Lib.hid hb1
  clear hb1
  go_wp2_with fail
  refine (ful_two 10 ⟨#[97, 98, 99]⟩ false w1 hE1 (fun b off cap w' h1 h2 => ful10 2 (by decide) (by decide) b off cap ⟨#[97, 98, 99]⟩ w' h1 (by decide) h2)).mono ?_
  rintro e w2 ⟨rfl, hb2⟩
  have hE2 := hE1.below hb2 hE1.size
  have H2 := Lib.hid (H1.out.trans (hb2.mono H1.out.size))
  clear hb2
  go_wp2_with fail
  case' _ => skip
  rotate_left
  iterate 4 (go_ret; exact ⟨rfl, H2.out⟩)
  have hz2 := H2.out.size
  by_cases hsh : s.size ≤ 2000
  · refine (short_one s w2 true (decide_eq_true hsh)).mono ?_
    rintro e w3 ⟨rfl, rfl⟩
    have a0 : 0 ≤ a := by assumption
    have b0 : 0 ≤ b := by assumption
    have a1 : a ≤ 1099511627776 := by assumption
    have b1 : b ≤ 1099511627776 := by assumption
    go_wp2_with fail
    refine (digits_any _ a _ a0 (by omega) (Nat.le_refl _)).mono ?_
    rintro e w3 ⟨rfl, rfl⟩
    go_wp2_with fail
    refine (digits_any _ a _ a0 (by omega) (Nat.le_refl _)).mono ?_
    rintro e w3 ⟨rfl, rfl⟩
    go_wp2_with fail
    refine (digits_any _ b _ b0 (by omega) (Nat.le_refl _)).mono ?_
    rintro e w3 ⟨rfl, rfl⟩
    go_wp2_with fail
    obtain ⟨W, hW⟩ : ∃ W, W = (((w2.alloc (.cells #[.string s] 9)).alloc (.cells #[.string (bs (Lib.decDigits a.toNat))] 9)).alloc (.cells #[.string (bs (Lib.decDigits a.toNat)), .string (bs (Lib.decDigits b.toNat))] 9)) := ⟨_, rfl⟩
    rw [← hW]
    have T : Two w (w2.heap.size + 1) (w2.heap.size + 1 + 1) a b W := by
      have hB : Below w2.heap.size w2 W := by rw [hW]; exact (((Below.refl _ _).alloc (Nat.le_refl _) _).alloc (by simp) _).alloc (by simp; omega) _
      exact ⟨hE2.below hB hE2.size, H2.out.trans (hB.mono hz2), by rw [hW]; simp [cell_alloc, objCell], by rw [hW]; simp [cell_alloc, objCell], by rw [hW]; simp [cell_alloc, objCell]⟩
    clear hW
    refine (ful8 a a0 a1 _ _ _ s W T.env hs T.cx).mono ?_
    rintro e w3 ⟨rfl, hb3⟩
    have T3 := T.step hb3
    clear hb3
    go_wp2_with fail
    refine (ful9 a a0 a1 _ _ _ s w3 T3.env hs T3.cx).mono ?_
    rintro e w4 ⟨rfl, hb4⟩
    have T4 := T3.step hb4
    clear hb4
    go_wp2_with fail
    refine (ful10 a a0 a1 _ _ _ s w4 T4.env hs T4.cx).mono ?_
    rintro e w5 ⟨rfl, hb5⟩
    have T5 := T4.step hb5
    clear hb5
    go_wp2_with fail
    refine (ful11 a b a0 a1 b0 b1 _ _ _ s w5 T5.env hs T5.cy T5.cz).mono ?_
    rintro e w6 ⟨rfl, hb6⟩
    have T6 := T5.step hb6
    clear hb6
    go_wp2_with fail
    all_goals
      go_ret
      exact ⟨rfl, T6.below⟩
  · refine (short_one s w2 false (decide_eq_false hsh)).mono ?_
    rintro e w3 ⟨rfl, rfl⟩
    go_wp2_with fail
    go_ret
    exact ⟨rfl, H2.out.alloc hz2 _⟩

set_option maxRecDepth 100000 in
theorem length_big (s : ByteArray) (a b : Int) (w : World) (hS : 2147483647 < s.size) :
    Calls Tryd.prog 3 #[.string s, .int .i64 a, .int .i64 b] w fun e w' => e = .returned (.bool true) ∧ Below w.heap.size w w' := by
  go_enter Tryd.func3, Tryd.ntmps3
  go_wp2_with fail
  go_ret
  exact ⟨rfl, Below.refl _ _⟩

theorem length_law (s : ByteArray) (a b : Int) (w : World) (hE : Env w) (hs : s.size ≤ 140737488351232) :
    Calls Tryd.prog 3 #[.string s, .int .i64 a, .int .i64 b] w fun e w' => e = .returned (.bool true) ∧ Below w.heap.size w w' := by
  rcases Nat.lt_or_ge 2147483647 s.size with h | h
  · exact length_big s a b w h
  · exact length_walk s a b w hE hs h
end Go.Proofs.YtiebedcldbmlhaaDoor
