/-
  The reference's small functions: nameByte, constByte, digit, short. Conditions: of a size that addresses allow; a number from 0 on and below 2^62.
-/
import Derived.Test.YtiebedcldbmlhaaGreatDoorBA
import Derived.Test.YtiebedcldbmlhaaGreatDoorAA
import Derived.Test.YtiebedcldbmlhaaGreatDoorN
namespace Go.Proofs.YtiebedcldbmlhaaGreatDoor
open Go.RowKit
set_option linter.unusedVariables false

theorem nameB_nat (c : UInt8) : nameB c = ((decide (97 ≤ c.toNat) && decide (c.toNat ≤ 122)) || (decide (65 ≤ c.toNat) && decide (c.toNat ≤ 90)) || (decide (48 ≤ c.toNat) && decide (c.toNat ≤ 57)) || decide (c.toNat = 95)) := by
  have h : (c == 95) = decide (c.toNat = 95) := by
    rw [Bool.eq_iff_iff, beq_iff_eq, decide_eq_true_iff]
    exact ⟨fun e => by rw [e]; rfl, fun e => UInt8.toNat_inj.1 e⟩
  unfold nameB
  rw [h]
  simp only [UInt8.le_iff_toNat_le]
  rfl
set_option maxHeartbeats 2000000 in
theorem nameByte_any (c : UInt8) (w : World) : Calls Tryz.prog 38 #[.int .u8 (c.toNat : Int)] w fun e w' => e = .returned (.bool (nameB c)) ∧ w = w' := by
  have h256 : c.toNat < 256 := c.toNat_lt
  go_enter Tryz.func38, Tryz.ntmps38
  have hcases : (c.toNat < 48) ∨ (48 ≤ c.toNat ∧ c.toNat ≤ 57) ∨ (58 ≤ c.toNat ∧ c.toNat ≤ 64) ∨ (65 ≤ c.toNat ∧ c.toNat ≤ 90) ∨ (91 ≤ c.toNat ∧ c.toNat ≤ 94) ∨ (c.toNat = 95) ∨ (c.toNat = 96) ∨ (97 ≤ c.toNat ∧ c.toNat ≤ 122) ∨ (122 < c.toNat) := by omega
  rcases hcases with h | h | h | h | h | h | h | h | h
  · have hn : nameB c = false := by rw [nameB_nat]; simp; omega
    have HN := Lib.hid hn
    have dA : decide ((97 : Int) ≤ (c.toNat : Int)) = false := decide_eq_false (by omega)
    have nA : ¬ ((97 : Int) ≤ (c.toNat : Int)) := by omega
    have dC : decide ((65 : Int) ≤ (c.toNat : Int)) = false := decide_eq_false (by omega)
    have nC : ¬ ((65 : Int) ≤ (c.toNat : Int)) := by omega
    have dE : decide ((48 : Int) ≤ (c.toNat : Int)) = false := decide_eq_false (by omega)
    have nE : ¬ ((48 : Int) ≤ (c.toNat : Int)) := by omega
    have dG : ((c.toNat : Int) == 95) = false := by rw [beq_eq_false_iff_ne]; omega
    clear hn h
    go_wp2
    go_ret
    exact ⟨ret_bool (by rw [HN.out]), rfl⟩
  · have hn : nameB c = true := by rw [nameB_nat]; simp; omega
    have HN := Lib.hid hn
    have dA : decide ((97 : Int) ≤ (c.toNat : Int)) = false := decide_eq_false (by omega)
    have nA : ¬ ((97 : Int) ≤ (c.toNat : Int)) := by omega
    have dC : decide ((65 : Int) ≤ (c.toNat : Int)) = false := decide_eq_false (by omega)
    have nC : ¬ ((65 : Int) ≤ (c.toNat : Int)) := by omega
    have dE : decide ((48 : Int) ≤ (c.toNat : Int)) = true := decide_eq_true (by omega)
    have dF : decide ((c.toNat : Int) ≤ (57 : Int)) = true := decide_eq_true (by omega)
    clear hn h
    go_wp2
    go_ret
    exact ⟨ret_bool (by rw [HN.out]), rfl⟩
  · have hn : nameB c = false := by rw [nameB_nat]; simp; omega
    have HN := Lib.hid hn
    have dA : decide ((97 : Int) ≤ (c.toNat : Int)) = false := decide_eq_false (by omega)
    have nA : ¬ ((97 : Int) ≤ (c.toNat : Int)) := by omega
    have dC : decide ((65 : Int) ≤ (c.toNat : Int)) = false := decide_eq_false (by omega)
    have nC : ¬ ((65 : Int) ≤ (c.toNat : Int)) := by omega
    have dE : decide ((48 : Int) ≤ (c.toNat : Int)) = true := decide_eq_true (by omega)
    have dF : decide ((c.toNat : Int) ≤ (57 : Int)) = false := decide_eq_false (by omega)
    have nF : ¬ ((c.toNat : Int) ≤ (57 : Int)) := by omega
    have dG : ((c.toNat : Int) == 95) = false := by rw [beq_eq_false_iff_ne]; omega
    clear hn h
    go_wp2
    go_ret
    exact ⟨ret_bool (by rw [HN.out]), rfl⟩
  · have hn : nameB c = true := by rw [nameB_nat]; simp; omega
    have HN := Lib.hid hn
    have dA : decide ((97 : Int) ≤ (c.toNat : Int)) = false := decide_eq_false (by omega)
    have nA : ¬ ((97 : Int) ≤ (c.toNat : Int)) := by omega
    have dC : decide ((65 : Int) ≤ (c.toNat : Int)) = true := decide_eq_true (by omega)
    have dD : decide ((c.toNat : Int) ≤ (90 : Int)) = true := decide_eq_true (by omega)
    clear hn h
    go_wp2
    go_ret
    exact ⟨ret_bool (by rw [HN.out]), rfl⟩
  · have hn : nameB c = false := by rw [nameB_nat]; simp; omega
    have HN := Lib.hid hn
    have dA : decide ((97 : Int) ≤ (c.toNat : Int)) = false := decide_eq_false (by omega)
    have nA : ¬ ((97 : Int) ≤ (c.toNat : Int)) := by omega
    have dC : decide ((65 : Int) ≤ (c.toNat : Int)) = true := decide_eq_true (by omega)
    have dD : decide ((c.toNat : Int) ≤ (90 : Int)) = false := decide_eq_false (by omega)
    have nD : ¬ ((c.toNat : Int) ≤ (90 : Int)) := by omega
    have dE : decide ((48 : Int) ≤ (c.toNat : Int)) = true := decide_eq_true (by omega)
    have dF : decide ((c.toNat : Int) ≤ (57 : Int)) = false := decide_eq_false (by omega)
    have nF : ¬ ((c.toNat : Int) ≤ (57 : Int)) := by omega
    have dG : ((c.toNat : Int) == 95) = false := by rw [beq_eq_false_iff_ne]; omega
    clear hn h
    go_wp2
    go_ret
    exact ⟨ret_bool (by rw [HN.out]), rfl⟩
  · have hn : nameB c = true := by rw [nameB_nat]; simp; omega
    have HN := Lib.hid hn
    have dA : decide ((97 : Int) ≤ (c.toNat : Int)) = false := decide_eq_false (by omega)
    have nA : ¬ ((97 : Int) ≤ (c.toNat : Int)) := by omega
    have dC : decide ((65 : Int) ≤ (c.toNat : Int)) = true := decide_eq_true (by omega)
    have dD : decide ((c.toNat : Int) ≤ (90 : Int)) = false := decide_eq_false (by omega)
    have nD : ¬ ((c.toNat : Int) ≤ (90 : Int)) := by omega
    have dE : decide ((48 : Int) ≤ (c.toNat : Int)) = true := decide_eq_true (by omega)
    have dF : decide ((c.toNat : Int) ≤ (57 : Int)) = false := decide_eq_false (by omega)
    have nF : ¬ ((c.toNat : Int) ≤ (57 : Int)) := by omega
    have dG : ((c.toNat : Int) == 95) = true := by rw [beq_iff_eq]; omega
    clear hn h
    go_wp2
    go_ret
    exact ⟨ret_bool (by rw [HN.out]), rfl⟩
  · have hn : nameB c = false := by rw [nameB_nat]; simp; omega
    have HN := Lib.hid hn
    have dA : decide ((97 : Int) ≤ (c.toNat : Int)) = false := decide_eq_false (by omega)
    have nA : ¬ ((97 : Int) ≤ (c.toNat : Int)) := by omega
    have dC : decide ((65 : Int) ≤ (c.toNat : Int)) = true := decide_eq_true (by omega)
    have dD : decide ((c.toNat : Int) ≤ (90 : Int)) = false := decide_eq_false (by omega)
    have nD : ¬ ((c.toNat : Int) ≤ (90 : Int)) := by omega
    have dE : decide ((48 : Int) ≤ (c.toNat : Int)) = true := decide_eq_true (by omega)
    have dF : decide ((c.toNat : Int) ≤ (57 : Int)) = false := decide_eq_false (by omega)
    have nF : ¬ ((c.toNat : Int) ≤ (57 : Int)) := by omega
    have dG : ((c.toNat : Int) == 95) = false := by rw [beq_eq_false_iff_ne]; omega
    clear hn h
    go_wp2
    go_ret
    exact ⟨ret_bool (by rw [HN.out]), rfl⟩
  · have hn : nameB c = true := by rw [nameB_nat]; simp; omega
    have HN := Lib.hid hn
    have dA : decide ((97 : Int) ≤ (c.toNat : Int)) = true := decide_eq_true (by omega)
    have dB : decide ((c.toNat : Int) ≤ (122 : Int)) = true := decide_eq_true (by omega)
    clear hn h
    go_wp2
    go_ret
    exact ⟨ret_bool (by rw [HN.out]), rfl⟩
  · have hn : nameB c = false := by rw [nameB_nat]; simp; omega
    have HN := Lib.hid hn
    have dA : decide ((97 : Int) ≤ (c.toNat : Int)) = true := decide_eq_true (by omega)
    have dB : decide ((c.toNat : Int) ≤ (122 : Int)) = false := decide_eq_false (by omega)
    have nB : ¬ ((c.toNat : Int) ≤ (122 : Int)) := by omega
    have dC : decide ((65 : Int) ≤ (c.toNat : Int)) = true := decide_eq_true (by omega)
    have dD : decide ((c.toNat : Int) ≤ (90 : Int)) = false := decide_eq_false (by omega)
    have nD : ¬ ((c.toNat : Int) ≤ (90 : Int)) := by omega
    have dE : decide ((48 : Int) ≤ (c.toNat : Int)) = true := decide_eq_true (by omega)
    have dF : decide ((c.toNat : Int) ≤ (57 : Int)) = false := decide_eq_false (by omega)
    have nF : ¬ ((c.toNat : Int) ≤ (57 : Int)) := by omega
    have dG : ((c.toNat : Int) == 95) = false := by rw [beq_eq_false_iff_ne]; omega
    clear hn h
    go_wp2
    go_ret
    exact ⟨ret_bool (by rw [HN.out]), rfl⟩

theorem u8_is (c d : UInt8) (k : Int) (hk : (d.toNat : Int) = k) : ((c.toNat : Int) == k) = (c == d) := by
  rw [Bool.eq_iff_iff, beq_iff_eq, beq_iff_eq]
  exact ⟨fun h => UInt8.toNat_inj.1 (by omega), fun h => by rw [h]; exact hk⟩
set_option maxHeartbeats 2000000 in
theorem constByte_any (c : UInt8) (w : World) : Calls Tryz.prog 39 #[.int .u8 (c.toNat : Int)] w fun e w' => e = .returned (.bool (constB c)) ∧ w = w' := by
  have q1 := u8_is c 47 47 rfl
  have q2 := u8_is c 45 45 rfl
  have q3 := u8_is c 46 46 rfl
  have HC := Lib.hid (show constB c = (nameB c || c == 47 || c == 45 || c == 46) from rfl)
  obtain ⟨b0, h0⟩ : ∃ b, b = nameB c := ⟨_, rfl⟩
  obtain ⟨b1, h1⟩ : ∃ b, b = (c == 47) := ⟨_, rfl⟩
  obtain ⟨b2, h2⟩ : ∃ b, b = (c == 45) := ⟨_, rfl⟩
  obtain ⟨b3, h3⟩ : ∃ b, b = (c == 46) := ⟨_, rfl⟩
  rw [← h1] at q1
  rw [← h2] at q2
  rw [← h3] at q3
  rw [← h0, ← h1, ← h2, ← h3] at HC
  have HB := Lib.hid (nameByte_any c w)
  rw [← h0] at HB
  clear h0 h1 h2 h3
  go_enter Tryz.func39, Tryz.ntmps39
  go_wp2_with fail
  refine HB.out.mono ?_
  rintro e w1 ⟨rfl, rfl⟩
  cases b0 <;> cases b1 <;> cases b2 <;> cases b3 <;>
  · go_wp2_with fail
    go_ret
    exact ⟨ret_bool (by rw [HC.out]; rfl), rfl⟩

theorem dig_one : ∀ i : Fin 10, (⟨#[48, 49, 50, 51, 52, 53, 54, 55, 56, 57]⟩ : ByteArray).extract i.val (i.val + 1) = bs [UInt8.ofNat (48 + i.val)] := by decide +kernel
theorem dec_step (u : Nat) (h : ¬ u < 10) : Lib.decDigits u = Lib.decDigits (u / 10) ++ Lib.decDigits (u % 10) := by
  rw [Lib.decDigits, dif_neg h, Lib.decDigits_one (show u % 10 < 10 by omega)]
theorem dig_oneI (n : Int) (h0 : 0 ≤ n) (h1 : n < 10) : (⟨#[48, 49, 50, 51, 52, 53, 54, 55, 56, 57]⟩ : ByteArray).extract n.toNat (n + 1).toNat = bs (Lib.decDigits n.toNat) := by
  obtain ⟨k, rfl⟩ := Int.eq_ofNat_of_zero_le h0
  have h := dig_one ⟨k, by omega⟩
  rw [show (k : Int).toNat = k by omega, show ((k : Int) + 1).toNat = k + 1 by omega, Lib.decDigits_one (by omega)]
  exact h
theorem nDigits_le : ∀ (k u : Nat), u < 10 ^ (k + 1) → Lib.nDigits u ≤ k + 1
  | 0, u, h => by rw [Lib.nDigits, dif_pos (by omega)]; exact Nat.le_refl _
  | k + 1, u, h => by
    by_cases h1 : u < 10
    · rw [Lib.nDigits, dif_pos h1]; omega
    · rw [Lib.nDigits, dif_neg h1]
      have := nDigits_le k (u / 10) (by rw [Nat.pow_succ] at h; omega)
      omega
theorem dec_size (u : Nat) (h : u < 4611686018427387904) : (bs (Lib.decDigits u)).size ≤ 100 := by
  rw [bs_size, Lib.decDigits_length]
  have := nDigits_le 18 u (by omega)
  omega
set_option maxHeartbeats 1000000 in
theorem digit_small (n : Int) (w : World) (h0 : 0 ≤ n) (h : n < 10) : Calls Tryz.prog 37 #[.int .i64 n] w fun e w' => e = .returned (.string (bs (Lib.decDigits n.toNat))) ∧ w = w' := by
  have H := Lib.hid (dig_oneI n h0 h)
  obtain ⟨k, rfl⟩ := Int.eq_ofNat_of_zero_le h0
  go_enter Tryz.func37, Tryz.ntmps37
  go_wp2
  go_ret
  exact ⟨ret_str (by rw [← H.out]; rfl), rfl⟩
set_option maxHeartbeats 1000000 in
theorem digit_any : ∀ (m : Nat) (n : Int) (w : World), 0 ≤ n → n < 1000000 → n.toNat ≤ m → Calls Tryz.prog 37 #[.int .i64 n] w fun e w' => e = .returned (.string (bs (Lib.decDigits n.toNat))) ∧ w = w' := by
  intro m
  induction m with
  | zero => intro n w h0 h1 hm; exact digit_small n w h0 (by omega)
  | succ m ih =>
    intro n w h0 h1 hm
    by_cases h : n < 10
    · exact digit_small n w h0 h
    have I1 := Lib.hid (fun w => ih (n / 10) w (by omega) (by omega) (by omega))
    have I2 := Lib.hid (fun w => ih (n % 10) w (by omega) (by omega) (by omega))
    have hz1 := dec_size (n / 10).toNat (by omega)
    have hz2 := dec_size (n % 10).toNat (by omega)
    clear ih
    go_enter Tryz.func37, Tryz.ntmps37
    go_wp2_with fail
    refine (I1.out w).mono ?_
    rintro e w' ⟨rfl, rfl⟩
    go_wp2_with fail
    refine (I2.out w).mono ?_
    rintro e w' ⟨rfl, rfl⟩
    go_wp2_with fail
    go_ret
    exact ⟨ret_str (by rw [bs_append, dec_step n.toNat (by omega), show (n / 10).toNat = n.toNat / 10 by omega, show (n % 10).toNat = n.toNat % 10 by omega]), rfl⟩

/-- An answer of yes or no. -/
def SomeBool (e : Ending) : Prop := ∃ b, e = .returned (.bool b)
/-- short answers; what, the law does not ask. -/
theorem shorts_any (s : ByteArray) (w : World) (hs : s.size ≤ 1000000) : Calls Tryz.prog 40 #[.string s] w fun e w' => SomeBool e ∧ w = w' := by
  go_enter Tryz.func40, Tryz.ntmps40
  go_wp2
  go_loop [0] (fun v => ∃ t : ByteArray, v = .string t ∧ t.size ≤ 1000000) (fun v => strSize v)
  case atStart => exact ⟨s, rfl, hs⟩
  case round =>
    obtain ⟨t, rfl, ht⟩ := hrel
    obtain ⟨mb, hmb⟩ : ∃ b, b = decide ((1 : Int) < (s.size : Int)) := ⟨_, rfl⟩
    rw [← hmb]
    clear hmb
    by_cases h1 : 1 < t.size
    · have hl : t.size - 1 < t.size := by omega
      have hi : ((t.size : Int) - 1).toNat = t.size - 1 := by omega
      cases hq : (((t[t.size - 1]'hl).toNat : Int) == 47) with
      | true =>
        go_wp2
        go_round
        case rel => exact ⟨t.extract 0 (t.size - 1), by simp, by simp; omega⟩
        case measure => simp [strSize]; omega
      | false =>
        go_wp2
        go_ret
        exact ⟨Exists.intro _ rfl, rfl⟩
    · by_cases h2 : t.size = 1
      · have hl : 0 < t.size := by omega
        cases hq : (((t[0]'hl).toNat : Int) != 47) with
        | true =>
          go_wp2
          go_ret
          exact ⟨Exists.intro _ rfl, rfl⟩
        | false =>
          cases mb <;>
          · go_wp2
            go_ret
            exact ⟨Exists.intro _ rfl, rfl⟩
      · have h3 : ((t.size : Int) == 1) = false := by rw [beq_eq_false_iff_ne]; omega
        go_wp2
        go_ret
        exact ⟨Exists.intro _ rfl, rfl⟩
end Go.Proofs.YtiebedcldbmlhaaGreatDoor
