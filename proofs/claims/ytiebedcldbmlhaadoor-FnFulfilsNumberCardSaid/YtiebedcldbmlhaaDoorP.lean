/-
  Atoi of the decimal digits of a number is that number. Conditions: the number is below 1844674407370955162.
-/
import Derived.Lib.AtoiAll
import Derived.Lib.ItoaNum
import Derived.Lib.AtoiAllCases
namespace Go.Proofs.YtiebedcldbmlhaaDoor
open Go.Lib

theorem parse_snoc (c : UInt8) : ∀ (l : List UInt8) (acc : Nat), parseUint10 acc (l ++ [c]) = (match parseUint10 acc l with | .ok v => parseUint10 v [c] | x => x)
  | [], acc => by
    rw [List.nil_append, show parseUint10 acc [] = .ok acc from rfl]
  | d :: l, acc => by
    have ih := parse_snoc c l
    simp only [List.cons_append, parseUint10]
    split
    · split
      · rfl
      · split
        · rfl
        · rw [ih]; cases parseUint10 (acc * 10 + (d.toNat - 48)) l <;> simp only [parseUint10]
    · rfl

theorem digit_toNat (k : Nat) (h : k < 10) : (UInt8.ofNat (48 + k)).toNat = 48 + k := by
  simp [UInt8.toNat_ofNat']; omega

theorem parse_one (v k : Nat) (hk : k < 10) (hv : v * 10 + k < 1844674407370955162) : parseUint10 v [UInt8.ofNat (48 + k)] = .ok (v * 10 + k) := by
  simp only [parseUint10, digit_toNat k hk]
  rw [if_pos (by omega), if_neg (by omega), if_neg (by omega)]
  congr 1
  omega

theorem parse_digits : ∀ (m u : Nat), u ≤ m → u < 1844674407370955162 → parseUint10 0 (decDigits u) = .ok u
  | m, u, hm, hu => by
    by_cases h : u < 10
    · rw [decDigits_one h, parse_one 0 u h (by omega)]; simp
    · cases m with
      | zero => omega
      | succ m =>
        rw [decDigits, dif_neg h, parse_snoc, parse_digits m (u / 10) (by omega) (by omega)]
        simp only
        rw [parse_one _ _ (by omega) (by omega)]
        congr 1
        omega

theorem decDigits_head (u : Nat) : ∃ k r, decDigits u = UInt8.ofNat (48 + k) :: r ∧ k < 10 := by
  induction u using Nat.strongRecOn with
  | ind u ih =>
    by_cases h : u < 10
    · exact ⟨u, [], decDigits_one h, h⟩
    · obtain ⟨k, r, hk, hl⟩ := ih (u / 10) (by omega)
      exact ⟨k, r ++ [UInt8.ofNat (48 + u % 10)], by rw [decDigits, dif_neg h, hk]; rfl, hl⟩

theorem atoi_digits (u : Nat) (hu : u < 1844674407370955162) : atoiAll (decDigits u) = .ok (u : Int) := by
  obtain ⟨k, r, hk, hl⟩ := decDigits_head u
  have hp : parseMag (decDigits u) = .ok u := by
    unfold parseMag
    rw [if_neg (by rw [hk]; simp)]
    exact parse_digits u u (Nat.le_refl _) hu
  rw [hk] at hp ⊢
  rw [atoiAll_plain _ _ (by rw [digit_toNat k hl]; omega) (by rw [digit_toNat k hl]; omega), hp]
  simp only [signless]
  rw [if_neg (by omega)]
end Go.Proofs.YtiebedcldbmlhaaDoor
