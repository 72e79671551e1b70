/-
  Laws on one step of the match. No program in this text. Conditions: each law's own.
-/
import Derived.Test.YtiebedcldbmlhaaGreatDoorX
namespace Go.Proofs.YtiebedcldbmlhaaGreatDoor
open Go.RowKit
set_option linter.unusedVariables false

theorem greedyGo_le (sub : Bs) : ∀ (p c : Nat) (s : Bs), (greedyGo sub p c s).length ≤ s.length
  | 0, c, s => by rw [greedyGo_stop (.inl rfl)]; exact Nat.le_refl _
  | p + 1, 0, s => by rw [greedyGo_stop (.inr rfl)]; exact Nat.le_refl _
  | p + 1, c + 1, s => by
    cases h : lastIdx s sub with
    | none => rw [greedyGo_none h]; exact Nat.le_refl _
    | some k =>
      rw [greedyGo_some h]
      exact Nat.le_trans (greedyGo_le sub p c _) (by rw [List.length_take]; omega)
theorem fb_getD_le (s : Bs) (c : UInt8) : (fb s c).getD s.length ≤ s.length := by
  cases h : fb s c with
  | none => exact Nat.le_refl _
  | some k => have : k < s.length := findIdx_lt h
              show k ≤ _; omega
theorem paramLen_le (s : Bs) (x : Seg) : paramLen s x ≤ s.length := by
  unfold paramLen
  split
  · split
    · exact Nat.le_refl _
    · exact fb_getD_le s 47
  · split
    · omega
    · split
      · split
        · exact greedyGo_le _ _ _ _
        · split
          · exact fb_getD_le s _
          · split
            · exact Nat.le_refl _
            · rename_i p hp
              have := idx_le hp
              split <;> omega
      · exact Nat.zero_le _

abbrev chk0 : Con → Bs → Bool := fun _ _ => true
abbrev mres (M : List Seg) (part : Bool) (s : Bs) : Option (List Bs) := matchGo chk0 part M s []

theorem mg_opt {part : Bool} {x : Seg} {R : List Seg} {s : Bs} {vs : List Bs} {n : Nat} (hp : x.isParam = false) (ho : x.optSlash = true) (hl : x.length = (n : Int) + 1) (h1 : s.length = n) (h2 : s = x.const.take n) :
    matchGo chk0 part (x :: R) s vs = matchGo chk0 part R (s.drop n) vs := by
  conv => lhs; unfold matchGo
  have e : (x.length - 1).toNat = n := by omega
  rw [hp, ho, e]
  simp only [Bool.not_false, if_true]
  rw [if_pos ⟨trivial, by omega, h2⟩]
theorem mg_full {part : Bool} {x : Seg} {R : List Seg} {s : Bs} {vs : List Bs} {n : Nat} (hp : x.isParam = false) (hl : x.length = (n : Int)) (h1 : n ≤ s.length) (h2 : s.take n = x.const) :
    matchGo chk0 part (x :: R) s vs = matchGo chk0 part R (s.drop n) vs := by
  conv => lhs; unfold matchGo
  have e : x.length.toNat = n := by omega
  rw [hp, e]
  simp only [Bool.not_false, if_true]
  rw [if_neg (by rintro ⟨_, h, _⟩; omega), if_pos ⟨by omega, h2⟩]
theorem mg_fail {part : Bool} {x : Seg} {R : List Seg} {s : Bs} {vs : List Bs} {n : Nat} (hp : x.isParam = false) (hl : x.length = (n : Int)) (h0 : ¬ (x.optSlash = true ∧ (s.length : Int) = n - 1 ∧ s = x.const.take (n - 1))) (h2 : ¬ (n ≤ s.length ∧ s.take n = x.const)) :
    matchGo chk0 part (x :: R) s vs = none := by
  conv => lhs; unfold matchGo
  have e : x.length.toNat = n := by omega
  have e2 : (x.length - 1).toNat = n - 1 := by omega
  rw [hp, e, e2]
  simp only [Bool.not_false, if_true]
  rw [if_neg (by rintro ⟨a, b, c⟩; exact h0 ⟨a, by omega, c⟩), if_neg (by rintro ⟨a, b⟩; exact h2 ⟨by omega, b⟩)]
theorem mg_pfail {part : Bool} {x : Seg} {R : List Seg} {s : Bs} {vs : List Bs} (hp : x.isParam = true) (ho : x.optional = false) (hl : paramLen s x = 0) : matchGo chk0 part (x :: R) s vs = none := by
  conv => lhs; unfold matchGo
  simp only [hp, ho, hl, Bool.not_true, Bool.false_eq_true, if_false, Bool.not_false, true_and, if_true]
theorem mg_pgo {part : Bool} {x : Seg} {R : List Seg} {s : Bs} {vs : List Bs} (hp : x.isParam = true) (hc : x.cons = []) (ho : x.optional = true ∨ paramLen s x ≠ 0) : matchGo chk0 part (x :: R) s vs = matchGo chk0 part R (s.drop (paramLen s x)) (vs ++ [s.take (paramLen s x)]) := by
  conv => lhs; unfold matchGo
  have h0 : ¬ ((!x.optional) = true ∧ paramLen s x = 0) := by
    rintro ⟨h1, h2⟩
    rcases ho with h | h
    · rw [h] at h1; cases h1
    · exact h h2
  simp only [hp, hc, Bool.not_true, Bool.false_eq_true, if_false, List.any_nil, and_false, h0]
theorem mg_end {part : Bool} {s : Bs} {vs : List Bs} : matchGo chk0 part [] s vs = if s ≠ [] ∧ part = false then none else some vs := by unfold matchGo; rfl
theorem drop_at {L : List Seg} {k : Nat} {x : Seg} (h : L[k]? = some x) : L.drop k = x :: L.drop (k + 1) := drop_step h
theorem filter_drop {L : List Seg} {k : Nat} {x : Seg} (h : L[k]? = some x) (hp : x.isParam = true) : ((L.drop k).filter (·.isParam)).length = ((L.drop (k + 1)).filter (·.isParam)).length + 1 := by
  rw [drop_step h, List.filter_cons_of_pos hp]; rfl
theorem filter_drop0 {L : List Seg} {k : Nat} {x : Seg} (h : L[k]? = some x) (hp : x.isParam = false) : ((L.drop k).filter (·.isParam)).length = ((L.drop (k + 1)).filter (·.isParam)).length := by
  rw [drop_step h, List.filter_cons_of_neg (by simp [hp])]
end Go.Proofs.YtiebedcldbmlhaaGreatDoor
