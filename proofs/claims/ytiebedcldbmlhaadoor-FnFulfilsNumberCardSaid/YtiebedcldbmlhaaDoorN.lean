/-
  The law FnFulfilsNumber returns true and writes nothing that was there. Conditions: the package-level errors hold interface values.
-/
import Derived.Test.YtiebedcldbmlhaaDoorL
namespace Go.Proofs.YtiebedcldbmlhaaDoor
open Go.RowKit
set_option linter.unusedVariables false

theorem parse_x (r : List UInt8) : ∀ v, Lib.parseMag (r ++ [120]) ≠ .ok v := by
  intro v
  unfold Lib.parseMag
  rw [if_neg (by simp), parse_snoc]
  cases Lib.parseUint10 0 r with
  | ok u =>
    simp [Lib.parseUint10]
  | _ => simp

theorem atoiOk_x (l : List UInt8) : atoiOk (l ++ [120]) = false := by
  unfold atoiOk
  have hx : ∀ v, Lib.atoiAll (l ++ [120]) ≠ .ok v := by
    intro v
    cases l with
    | nil => simp [Lib.atoiAll, Lib.parseMag, Lib.parseUint10]
    | cons c r =>
      rw [List.cons_append]
      by_cases h43 : c.toNat = 43
      · have : c = 43 := UInt8.toNat_inj.1 h43
        subst this
        rw [Lib.atoiAll_plus]
        have := parse_x r
        cases h : Lib.parseMag (r ++ [120]) with
        | ok u => exact absurd h (this u)
        | _ => simp [Lib.signless]
      · by_cases h45 : c.toNat = 45
        · have : c = 45 := UInt8.toNat_inj.1 h45
          subst this
          rw [Lib.atoiAll_minus]
          have := parse_x r
          cases h : Lib.parseMag (r ++ [120]) with
          | ok u => exact absurd h (this u)
          | _ => simp [Lib.signed]
        · rw [Lib.atoiAll_plain _ _ h43 h45, ← List.cons_append]
          have := parse_x (c :: r)
          cases h : Lib.parseMag (c :: r ++ [120]) with
          | ok u => exact absurd h (this u)
          | _ => simp [Lib.signless]
  split
  · rename_i v h; exact absurd h (hx v)
  · rfl

theorem data_append (a b : ByteArray) : (a ++ b).data.toList = a.data.toList ++ b.data.toList := by simp

theorem three_digits : bs (Lib.decDigits (3 : Int).toNat) = ⟨#[51]⟩ := by
  have : Lib.decDigits 3 = [51] := Lib.decDigits_one (by decide)
  show bs (Lib.decDigits 3) = _
  rw [this]

set_option maxHeartbeats 4000000 in
set_option maxRecDepth 100000 in
theorem number_walk (n a b : Int) (s : ByteArray) (w : World) (hE : Env w) (hs : s.size ≤ 140737488351232) (hS : s.size ≤ 2147483647) :
    Calls Tryd.prog 4 #[.int .i64 n, .int .i64 a, .int .i64 b, .string s] w fun e w' => e = .returned (.bool true) ∧ Below w.heap.size w w' := by
  go_enter Tryd.func4, Tryd.ntmps4
  go_wp2_with fail
  refine (ful_two 12 ⟨#[51]⟩ true w hE (fun b off cap w' h1 h2 => by rw [← three_digits]; exact ful12 2 3 (by decide) (by decide) (by decide) (by decide) b off cap w' h1 h2)).mono ?_
  rintro e w1 ⟨rfl, hb1⟩
  have hE1 := hE.below hb1 hE.size
  have H1 := Lib.hid hb1
  clear hb1
  go_wp2_with fail
  refine (ful_two 13 ⟨#[51]⟩ false w1 hE1 (fun b off cap w' h1 h2 => by rw [← three_digits]; exact ful13 2 3 (by decide) (by decide) (by decide) (by decide) b off cap w' h1 h2)).mono ?_
  rintro e w2 ⟨rfl, hb2⟩
  have hE2 := hE1.below hb2 hE1.size
  have H2 := Lib.hid (H1.out.trans (hb2.mono H1.out.size))
  clear hb2
  go_wp2_with fail
  rotate_left
  iterate 6 (go_ret; exact ⟨rfl, H2.out⟩)
  have hz2 := H2.out.size
  by_cases hsh : s.size ≤ 2000
  · refine (short_one s w2 true (decide_eq_true hsh)).mono ?_
    rintro e w3 ⟨rfl, rfl⟩
    have n0 : 0 ≤ n := by assumption
    have a0 : 0 ≤ a := by assumption
    have b0 : 0 ≤ b := by assumption
    have n1 : n ≤ 1099511627776 := by assumption
    have a1 : a ≤ 1099511627776 := by assumption
    have b1 : b ≤ 1099511627776 := by assumption
    have s1 : (s ++ ⟨#[120]⟩ : ByteArray).size ≤ 140737488351232 := by rw [ByteArray.size_append]; show s.size + 1 ≤ _; omega
    have sx : atoiOk (s ++ ⟨#[120]⟩ : ByteArray).data.toList = false := by rw [data_append]; exact atoiOk_x _
    have SX := Lib.hid sx
    clear sx
    go_wp2_with fail
    refine (digits_any _ n _ n0 (by omega) (Nat.le_refl _)).mono ?_
    rintro e w3 ⟨rfl, rfl⟩
    go_wp2_with fail
    have hE3 := hE2.below ((Below.refl _ _).alloc (Nat.le_refl _) (.cells #[.string s] 9)) hE2.size
    refine (ful2 _ _ hE3 s1).mono ?_
    rintro e w3 ⟨rfl, hb3⟩
    rw [SX.out]
    have hE4 := hE3.below hb3 hE3.size
    have H3 := Lib.hid ((H2.out.alloc hz2 _).trans (hb3.mono (by simp; omega)))
    clear hb3
    go_wp2_with fail
    refine (ful2 _ _ hE4 (Nat.le_trans (decDigits_size _ (by omega)) (by decide))).mono ?_
    rintro e w4 ⟨rfl, hb4⟩
    rw [atoiOk_digits n n0 n1]
    have hE5 := hE4.below hb4 hE4.size
    have H4 := Lib.hid (H3.out.trans (hb4.mono H3.out.size))
    clear hb4
    have hz4 := H4.out.size
    go_wp2_with fail
    refine (digits_any _ a _ a0 (by omega) (Nat.le_refl _)).mono ?_
    rintro e w5 ⟨rfl, rfl⟩
    go_wp2_with fail
    refine (digits_any _ a _ a0 (by omega) (Nat.le_refl _)).mono ?_
    rintro e w5 ⟨rfl, rfl⟩
    go_wp2_with fail
    refine (digits_any _ b _ b0 (by omega) (Nat.le_refl _)).mono ?_
    rintro e w5 ⟨rfl, rfl⟩
    go_wp2_with fail
    obtain ⟨W, hW⟩ : ∃ W, W = ((w4.alloc (.cells #[.string (bs (Lib.decDigits a.toNat))] 9)).alloc (.cells #[.string (bs (Lib.decDigits a.toNat)), .string (bs (Lib.decDigits b.toNat))] 9)) := ⟨_, rfl⟩
    rw [← hW]
    have T : Two w w4.heap.size (w4.heap.size + 1) a b W := by
      have hB : Below w4.heap.size w4 W := by rw [hW]; exact ((Below.refl _ _).alloc (Nat.le_refl _) _).alloc (by simp) _
      exact ⟨hE5.below hB hE5.size, H4.out.trans (hB.mono hz4), by rw [hW]; simp [cell_alloc, objCell], by rw [hW]; simp [cell_alloc, objCell], by rw [hW]; simp [cell_alloc, objCell]⟩
    clear hW
    refine (ful12 a n a0 a1 n0 n1 _ _ _ W T.env T.cx).mono ?_
    rintro e w5 ⟨rfl, hb5⟩
    have T5 := T.step hb5
    clear hb5
    go_wp2_with fail
    refine (ful13 a n a0 a1 n0 n1 _ _ _ w5 T5.env T5.cx).mono ?_
    rintro e w6 ⟨rfl, hb6⟩
    have T6 := T5.step hb6
    clear hb6
    go_wp2_with fail
    refine (ful14 a b n a0 a1 b0 b1 n0 n1 _ _ _ w6 T6.env T6.cy T6.cz).mono ?_
    rintro e w7 ⟨rfl, hb7⟩
    have T7 := T6.step hb7
    clear hb7
    go_wp2_with fail
    all_goals
      go_ret
      exact ⟨rfl, T7.below⟩
  · refine (short_one s w2 false (decide_eq_false hsh)).mono ?_
    rintro e w3 ⟨rfl, rfl⟩
    go_wp2_with fail
    go_ret
    exact ⟨rfl, H2.out.alloc hz2 _⟩

set_option maxRecDepth 100000 in
theorem number_big (n a b : Int) (s : ByteArray) (w : World) (hS : 2147483647 < s.size) :
    Calls Tryd.prog 4 #[.int .i64 n, .int .i64 a, .int .i64 b, .string s] w fun e w' => e = .returned (.bool true) ∧ Below w.heap.size w w' := by
  go_enter Tryd.func4, Tryd.ntmps4
  go_wp2_with fail
  go_ret
  exact ⟨rfl, Below.refl _ _⟩

theorem number_law (n a b : Int) (s : ByteArray) (w : World) (hE : Env w) (hs : s.size ≤ 140737488351232) :
    Calls Tryd.prog 4 #[.int .i64 n, .int .i64 a, .int .i64 b, .string s] w fun e w' => e = .returned (.bool true) ∧ Below w.heap.size w w' := by
  rcases Nat.lt_or_ge 2147483647 s.size with h | h
  · exact number_big n a b s w h
  · exact number_walk n a b s w hE hs h
end Go.Proofs.YtiebedcldbmlhaaDoor
