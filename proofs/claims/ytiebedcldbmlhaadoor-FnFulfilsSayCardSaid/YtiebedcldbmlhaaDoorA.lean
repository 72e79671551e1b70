/-
  The function digits writes the decimal digits of a number. Conditions: the number is from 0 on and below 2^62.
-/
import Derived.Test.YtiebedcldbmlhaaDoorProg
import Derived.WalkKit
import Derived.Lib.ItoaNum
import Derived.Lib.Hide
import Derived.Outline
import Derived.Deep.DeepFit
import Derived.WalkSpells
import Derived.WalkLawsBesides
namespace Go.Proofs.YtiebedcldbmlhaaDoor
open Go.RowKit

abbrev bs (l : List UInt8) : ByteArray := ⟨l.toArray⟩

theorem ret_str {a b : ByteArray} (h : a = b) : Ending.returned (.string a) = .returned (.string b) := by rw [h]
theorem ret_int {k : IntKind} {a b : Int} (h : a = b) : Ending.returned (.int k a) = .returned (.int k b) := by rw [h]
theorem ret_bool {a b : Bool} (h : a = b) : Ending.returned (.bool a) = .returned (.bool b) := by rw [h]

theorem encode_digit_fin : ∀ i : Fin 10, Utf8.encode ((48 : Int) + (i.val : Int)) = bs [UInt8.ofNat (48 + i.val)] := by decide +kernel
theorem encode_digit (n : Int) (h0 : 0 ≤ n) (h1 : n < 10) : Utf8.encode (48 + n) = bs [UInt8.ofNat (48 + n.toNat)] := by
  obtain ⟨k, rfl⟩ := Int.eq_ofNat_of_zero_le h0
  exact encode_digit_fin ⟨k, by omega⟩

theorem bs_append (a b : List UInt8) : bs a ++ bs b = bs (a ++ b) := by
  apply ByteArray.ext
  simp [bs]

set_option maxHeartbeats 400000 in
theorem digits_small (n : Int) (w : World) (h0 : 0 ≤ n) (h1 : n < 10) :
    Calls Tryd.prog 8 #[.int .i64 n] w fun e w' => e = .returned (.string (bs (Lib.decDigits n.toNat))) ∧ w = w' := by
  have H := Lib.hid (encode_digit n h0 h1)
  go_enter Tryd.func8, Tryd.ntmps8
  go_wp2
  go_ret
  exact ⟨ret_str (by rw [H.out, Lib.decDigits_one (by omega)]), rfl⟩

theorem nDigits_le : ∀ (k u : Nat), u < 10 ^ (k + 1) → Lib.nDigits u ≤ k + 1
  | 0, u, h => by rw [Lib.nDigits, dif_pos (by omega)]; exact Nat.le_refl _
  | k + 1, u, h => by
    by_cases h1 : u < 10
    · rw [Lib.nDigits, dif_pos h1]; omega
    · rw [Lib.nDigits, dif_neg h1]
      have := nDigits_le k (u / 10) (by rw [Nat.pow_succ] at h; omega)
      omega
theorem decDigits_size (u : Nat) (h : u < 4611686018427387904) : (bs (Lib.decDigits u)).size ≤ 100 := by
  have e : (bs (Lib.decDigits u)).size = (Lib.decDigits u).length := rfl
  rw [e, Lib.decDigits_length]
  have := nDigits_le 18 u (by omega)
  omega
theorem decDigits_step (u : Nat) (h : ¬ u < 10) : Lib.decDigits u = Lib.decDigits (u / 10) ++ [UInt8.ofNat (48 + u % 10)] := by
  rw [Lib.decDigits, dif_neg h]

set_option maxHeartbeats 400000 in
theorem digits_any : ∀ (m : Nat) (n : Int) (w : World), 0 ≤ n → n < 4611686018427387904 → n.toNat ≤ m →
    Calls Tryd.prog 8 #[.int .i64 n] w fun e w' => e = .returned (.string (bs (Lib.decDigits n.toNat))) ∧ w = w' := by
  intro m
  induction m with
  | zero => intro n w h0 h1 hm; exact digits_small n w h0 (by omega)
  | succ m ih =>
    intro n w h0 h1 hm
    by_cases h : n < 10
    · exact digits_small n w h0 h
    have IH := Lib.hid ih
    clear ih
    have hq : 0 ≤ n / 10 := by omega
    have H := Lib.hid (encode_digit (n % 10) (by omega) (by omega))
    have hr0 : 0 ≤ n % 10 := by omega
    have hr1 : n % 10 < 10 := by omega
    go_enter Tryd.func8, Tryd.ntmps8
    go_wp2_with fail
    refine (IH.out (n / 10) w (by omega) (by omega) (by omega)).mono ?_
    rintro e w' ⟨rfl, rfl⟩
    have s1 : (bs (Lib.decDigits (n / 10).toNat)).size ≤ 100 := decDigits_size _ (by omega)
    have s2 : (Utf8.encode (48 + n % 10)).size ≤ 4 := by rw [H.out]; exact Nat.le_of_ble_eq_true rfl
    go_wp2
    go_ret
    exact ⟨ret_str (by rw [H.out, bs_append, decDigits_step n.toNat (by omega), show (n / 10).toNat = n.toNat / 10 by omega, show (n % 10).toNat = n.toNat % 10 by omega]), rfl⟩
end Go.Proofs.YtiebedcldbmlhaaDoor
