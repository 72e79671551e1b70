/-
  Texts as lists of numbers; the special names of floats. Conditions: a text within the reach.
-/
import Derived.Test.YtiebedcldbmlhaaDoorFK
namespace Go.Proofs.YtiebedcldbmlhaaDoor.Fl
open Go.RowKit
set_option linter.unusedVariables false

/-- A text's bytes as numbers. -/
def ns (s : ByteArray) : List Nat := s.data.toList.map UInt8.toNat
theorem ns_len (s : ByteArray) : (ns s).length = s.size := by unfold ns; rw [List.length_map]; rfl
theorem ns_drop (s : ByteArray) (i : Nat) (h : i < s.size) : (ns s).drop i = (s[i]'h).toNat :: (ns s).drop (i + 1) := by
  rw [List.drop_eq_getElem_cons (by rw [ns_len]; exact h)]
  congr 1
  simp [ns]
  rfl
theorem ns_end (s : ByteArray) (i : Nat) (h : s.size ≤ i) : (ns s).drop i = [] := List.drop_eq_nil_of_le (by rw [ns_len]; exact h)
theorem ns_lt (s : ByteArray) (i : Nat) (h : i < s.size) : (s[i]'h).toNat < 256 := (s[i]'h).toNat_lt
theorem ns_ext (s : ByteArray) (a b : Nat) : ns (s.extract a b) = ((ns s).take b).drop a := by
  unfold ns
  rw [ByteArray.data_extract]
  simp [List.map_drop, List.map_take, List.drop_take]
theorem ns_tail (s : ByteArray) (a : Nat) : ns (s.extract a s.size) = (ns s).drop a := by
  rw [ns_ext, List.take_of_length_le (by rw [ns_len]; exact Nat.le_refl _)]

def up (c : Nat) : Nat := if 65 ≤ c ∧ c ≤ 90 then c + 32 else c
/-- commonPrefixLenIgnoreCase -/
def cpl : List Nat → List Nat → Nat
  | x :: a, y :: b => if up x = y then cpl a b + 1 else 0
  | _, _ => 0
theorem cpl_le : ∀ (a b : List Nat), cpl a b ≤ a.length ∧ cpl a b ≤ b.length
  | [], b => by simp [cpl]
  | x :: a, [] => by simp [cpl]
  | x :: a, y :: b => by
    have := cpl_le a b
    unfold cpl
    split <;> simp <;> omega
set_option maxHeartbeats 1000000 in
set_option maxRecDepth 100000 in
theorem cpl_any (s t : ByteArray) (w : World) (hs : s.size ≤ 1000000000000) (ht : t.size ≤ 1000) :
    Calls Tryd.prog 61 #[.string s, .string t] w fun e w' => e = .returned (.int .i64 (cpl (ns s) (ns t) : Nat)) ∧ w' = w := by
  obtain ⟨z, hz⟩ : ∃ z, z = cpl (ns s) (ns t) := ⟨_, rfl⟩
  rw [← hz]
  have HZ := Lib.hid hz
  clear hz
  obtain ⟨n, hn⟩ : ∃ n, min (t.size : Int) (s.size : Int) = ((n : Nat) : Int) := ⟨min t.size s.size, by omega⟩
  have hns : n ≤ s.size := by omega
  have hnt : n ≤ t.size := by omega
  have hnn : n = s.size ∨ n = t.size := by omega
  have HNN := Lib.hid hnn
  clear hnn
  go_enter Tryd.func61, Tryd.ntmps61
  go_wp2_with fail
  go_loop [6] (fun i => ∃ k : Nat, i = .int .i64 k ∧ k ≤ n ∧ z = k + cpl ((ns s).drop k) ((ns t).drop k)) (fun i => n - (intOf i).toNat)
  case atStart => exact ⟨0, rfl, Nat.zero_le _, by rw [HZ.out]; simp⟩
  case round =>
    obtain ⟨k, rfl, hk, hzk⟩ := hrel
    by_cases hlt : k < n
    · have hks : k < s.size := Nat.lt_of_lt_of_le hlt hns
      have hkt : k < t.size := Nat.lt_of_lt_of_le hlt hnt
      rw [ns_drop s k hks, ns_drop t k hkt] at hzk
      have hx9 := ns_lt s k hks
      obtain ⟨x, hx⟩ : ∃ x : Nat, (s[k]'hks).toNat = x := ⟨_, rfl⟩
      obtain ⟨y, hy⟩ : ∃ y : Nat, (t[k]'hkt).toNat = y := ⟨_, rfl⟩
      rw [hx] at hx9 hzk
      rw [hy] at hzk
      have HK := Lib.hid hzk
      clear hzk
      by_cases hup : 65 ≤ x ∧ x ≤ 90
      · have u1 : decide ((65 : Int) ≤ (x : Int)) = true := decide_eq_true (by omega)
        have u2 : decide ((x : Int) ≤ 90) = true := decide_eq_true (by omega)
        have u3 : x ≤ 90 := hup.2
        have hu : up x = x + 32 := if_pos hup
        obtain ⟨v, hv⟩ : ∃ v, v = x + 32 := ⟨_, rfl⟩
        have hvi : (x : Int) + 32 = (v : Int) := by omega
        have hvw : IntKind.u8.wrap ((x : Int) + 32) = (v : Int) := by rw [IntWalk.u8_in _ (by omega)]; omega
        rw [← hv] at hu
        have HU := Lib.hid hu
        clear hu hv hup
        by_cases he : v = y
        · have he1 : ((v : Int) != (y : Int)) = false := by rw [he]; simp
          have HE := Lib.hid he
          clear he
          go_wp2_with fail
          go_round
          case rel => exact ⟨k + 1, by go_num, by omega, by
            have := HK.out
            rw [cpl, if_pos (HU.out.trans HE.out)] at this
            omega⟩
          case measure => simp [intOf]; omega
        · have he1 : ((v : Int) != (y : Int)) = true := by simp; omega
          have HE := Lib.hid he
          clear he
          go_wp2_with fail
          go_ret
          exact ⟨ret_int (by
            have := HK.out
            rw [cpl, if_neg (fun hh => HE.out (HU.out.symm.trans hh))] at this
            omega), rfl⟩
      · have hu : up x = x := if_neg hup
        have HU := Lib.hid hu
        clear hu
        by_cases he : x = y
        · have he1 : ((x : Int) != (y : Int)) = false := by rw [he]; simp
          have HE := Lib.hid he
          have hc : (65 ≤ x ∧ 90 < x) ∨ x < 65 := by omega
          clear he
          rcases hc with ⟨h1, h2⟩ | h1
          · have u1 : decide ((65 : Int) ≤ (x : Int)) = true := decide_eq_true (by omega)
            have u2 : decide ((x : Int) ≤ 90) = false := decide_eq_false (by omega)
            go_wp2_with fail
            go_round
            case rel => exact ⟨k + 1, by go_num, by omega, by
              have := HK.out
              rw [cpl, if_pos (HU.out.trans HE.out)] at this
              omega⟩
            case measure => simp [intOf]; omega
          · have u1 : decide ((65 : Int) ≤ (x : Int)) = false := decide_eq_false (by omega)
            go_wp2_with fail
            go_round
            case rel => exact ⟨k + 1, by go_num, by omega, by
              have := HK.out
              rw [cpl, if_pos (HU.out.trans HE.out)] at this
              omega⟩
            case measure => simp [intOf]; omega
        · have he1 : ((x : Int) != (y : Int)) = true := by simp; omega
          have HE := Lib.hid he
          have hc : (65 ≤ x ∧ 90 < x) ∨ x < 65 := by omega
          clear he
          rcases hc with ⟨h1, h2⟩ | h1
          · have u1 : decide ((65 : Int) ≤ (x : Int)) = true := decide_eq_true (by omega)
            have u2 : decide ((x : Int) ≤ 90) = false := decide_eq_false (by omega)
            go_wp2_with fail
            go_ret
            exact ⟨ret_int (by
              have := HK.out
              rw [cpl, if_neg (fun hh => HE.out (HU.out.symm.trans hh))] at this
              omega), rfl⟩
          · have u1 : decide ((65 : Int) ≤ (x : Int)) = false := decide_eq_false (by omega)
            go_wp2_with fail
            go_ret
            exact ⟨ret_int (by
              have := HK.out
              rw [cpl, if_neg (fun hh => HE.out (HU.out.symm.trans hh))] at this
              omega), rfl⟩
    · obtain rfl : k = n := by omega
      have HK := Lib.hid (show z = k by
        rcases HNN.out with h | h
        · have h1 := ns_end s k (by omega)
          rw [h1] at hzk
          simpa [cpl] using hzk
        · have h1 := ns_end t k (by omega)
          rw [h1] at hzk
          have : cpl ((ns s).drop k) [] = 0 := by cases (ns s).drop k <;> rfl
          rw [this] at hzk
          simpa using hzk)
      clear hzk
      go_wp2_with fail
      go_ret
      exact ⟨ret_int (by rw [HK.out]), rfl⟩
end Go.Proofs.YtiebedcldbmlhaaDoor.Fl
