/-
  TrimRight, GetTrimmedParam, getParamConstraintType, of any text. Conditions: of a size that addresses allow.
-/
import Derived.Test.YtiebedcldbmlhaaGreatDoorG
namespace Go.Proofs.YtiebedcldbmlhaaGreatDoor
open Go.RowKit
set_option linter.unusedVariables false

theorem trimRight_last (l : Bs) (c : UInt8) : trimRight (l ++ [c]) c = trimRight l c := by
  unfold trimRight
  simp
theorem trimRight_stop (l : Bs) (c d : UInt8) (h : d ≠ c) : trimRight (l ++ [d]) c = l ++ [d] := by
  unfold trimRight
  simp [h]
theorem take_last (s : ByteArray) (k : Nat) (h : k < s.size) : s.data.toList.take (k + 1) = s.data.toList.take k ++ [s[k]'h] := by
  rw [List.take_succ_eq_append_getElem (by simpa using h)]
  rfl

set_option maxHeartbeats 1000000 in
theorem trimRight_any (s : ByteArray) (c : UInt8) (w : World) (hs : s.size ≤ 140737488351232) :
    Calls Tryz.prog 50 #[.string s, .int .u8 (c.toNat : Int)] w fun e w' => e = .returned (.string (bs (trimRight s.data.toList c))) ∧ w = w' := by
  go_enter Tryz.func50, Tryz.ntmps50
  go_wp2
  go_loop [5] (fun p => ∃ k : Nat, p = .int .i64 k ∧ k ≤ s.size ∧ trimRight (s.data.toList.take k) c = trimRight s.data.toList c) (fun p => (intOf p).toNat)
  case atStart => exact ⟨s.size, rfl, by omega, by rw [List.take_of_length_le (by rw [size_data]; exact Nat.le_refl _)]⟩
  case round =>
    obtain ⟨k, rfl, hk, hg⟩ := hrel
    have HG := Lib.hid hg
    clear hg
    by_cases h0 : 0 < k
    · obtain ⟨k, rfl⟩ : ∃ j, k = j + 1 := ⟨k - 1, by omega⟩
      have hi : k < s.size := by omega
      have HT := Lib.hid (take_last s k hi)
      by_cases hb : s[k]'hi = c
      · have hq : (((s[k]'hi).toNat : Int) == (c.toNat : Int)) = true := by rw [u8_beq _ c _ rfl]; simpa using hb
        have HB := Lib.hid hb
        clear hb
        go_wp2
        go_round
        case rel => exact ⟨k, by go_num, by omega, by rw [← HG.out, HT.out, HB.out, trimRight_last]⟩
        case measure => simp [intOf]
      · have hq : (((s[k]'hi).toNat : Int) == (c.toNat : Int)) = false := by rw [u8_beq _ c _ rfl]; simpa using hb
        have HB := Lib.hid hb
        clear hb
        go_wp2
        go_ret
        refine ⟨ret_str ?_, rfl⟩
        rw [bytes_ext, extract_range, bs_data, ← HG.out, HT.out, trimRight_stop _ _ _ HB.out, ← HT.out]
        simp
    · obtain rfl : k = 0 := by omega
      go_wp2
      go_ret
      refine ⟨ret_str ?_, rfl⟩
      rw [bytes_ext, bs_data, ← HG.out]
      rfl

theorem data_cons (s : ByteArray) (h : 0 < s.size) : s.data.toList = s[0]'h :: s.data.toList.drop 1 := by
  have := byte_at s 0 h
  cases hl : s.data.toList with
  | nil => rw [hl] at this; simp at this
  | cons a l => rw [hl] at this; simp at this; simp [this]
theorem data_last (s : ByteArray) (h : s.size - 1 < s.size) : s.data.toList.getLast? = some (s[s.size - 1]'h) := by
  rw [List.getLast?_eq_getElem?, size_data, byte_at s _ h]

theorem trimmed_a (s : ByteArray) (h : 0 < s.size) (h1 : s[0]'h ≠ 58) : trimmed s.data.toList = s.data.toList := by
  rw [data_cons s h]; simp [trimmed, h1]
theorem trimmed_b (s : ByteArray) (h : 0 < s.size) (h1 : s[0]'h = 58) (hl : s.size - 1 < s.size) (h2 : s[s.size - 1]'hl = 63) : trimmed s.data.toList = (s.data.toList.drop 1).dropLast := by
  have e := data_last s hl
  rw [h2] at e
  rw [data_cons s h] at e ⊢
  rw [h1] at e ⊢
  simp only [trimmed, if_true]
  rw [if_pos e]
  simp
theorem trimmed_c (s : ByteArray) (h : 0 < s.size) (h1 : s[0]'h = 58) (hl : s.size - 1 < s.size) (h2 : s[s.size - 1]'hl ≠ 63) : trimmed s.data.toList = s.data.toList.drop 1 := by
  have e := data_last s hl
  rw [data_cons s h] at e ⊢
  rw [h1] at e ⊢
  simp only [trimmed, if_true]
  rw [if_neg (by rw [e]; simpa using h2)]
  simp

set_option maxHeartbeats 1000000 in
theorem trimmed_any (s : ByteArray) (w : World) (hs : s.size ≤ 140737488351232) :
    Calls Tryz.prog 74 #[.string s] w fun e w' => e = .returned (.string (bs (trimmed s.data.toList))) ∧ w = w' := by
  go_enter Tryz.func74, Tryz.ntmps74
  by_cases h0 : s.size = 0
  · go_wp2
    go_ret
    refine ⟨ret_str ?_, rfl⟩
    have : s.data.toList = [] := List.length_eq_zero_iff.1 (by rw [size_data]; exact h0)
    rw [bytes_ext, bs_data, this]
    rfl
  · have hi : 0 < s.size := by omega
    have hj : s.size - 1 < s.size := by omega
    by_cases h1 : s[0]'hi = 58
    · have q1 : (((s[0]'hi).toNat : Int) != 58) = false := by rw [bne, u8_beq _ 58 58 rfl]; simpa using h1
      by_cases h2 : s[s.size - 1]'hj = 63
      · have q2 : (((s[s.size - 1]'hj).toNat : Int) == 63) = true := by rw [u8_beq _ 63 63 rfl]; simpa using h2
        have h3 : 2 ≤ s.size := by
          rcases Nat.lt_or_ge 1 s.size with h | h
          · exact h
          · have e1 : s.size - 1 = 0 := by omega
            simp only [e1] at h2
            rw [h1] at h2
            simp at h2
        have HT := Lib.hid (trimmed_b s hi h1 hj h2)
        clear h1 h2
        go_wp2
        go_ret
        refine ⟨ret_str ?_, rfl⟩
        rw [bytes_ext, extract_range, bs_data, HT.out, List.dropLast_eq_take]
        simp
      · have q2 : (((s[s.size - 1]'hj).toNat : Int) == 63) = false := by rw [u8_beq _ 63 63 rfl]; simpa using h2
        have HT := Lib.hid (trimmed_c s hi h1 hj h2)
        clear h1 h2
        go_wp2
        go_ret
        refine ⟨ret_str ?_, rfl⟩
        rw [bytes_ext, extract_from, bs_data, HT.out]
    · have q1 : (((s[0]'hi).toNat : Int) != 58) = true := by rw [bne, u8_beq _ 58 58 rfl]; simpa using h1
      have HT := Lib.hid (trimmed_a s hi h1)
      clear h1
      go_wp2
      go_ret
      refine ⟨ret_str ?_, rfl⟩
      rw [bytes_ext, bs_data, HT.out]

theorem ctype_eq (s : Bs) : ctype s =
    if s = [105, 110, 116] then 2
    else if s = [98, 111, 111, 108] then 3
    else if s = [102, 108, 111, 97, 116] then 4
    else if s = [97, 108, 112, 104, 97] then 5
    else if s = [103, 117, 105, 100] then 7
    else if s = [109, 105, 110, 76, 101, 110] ∨ s = [109, 105, 110, 108, 101, 110] then 8
    else if s = [109, 97, 120, 76, 101, 110] ∨ s = [109, 97, 120, 108, 101, 110] then 9
    else if s = [108, 101, 110] then 10
    else if s = [98, 101, 116, 119, 101, 101, 110, 76, 101, 110] ∨ s = [98, 101, 116, 119, 101, 101, 110, 108, 101, 110] then 11
    else if s = [109, 105, 110] then 12
    else if s = [109, 97, 120] then 13
    else if s = [114, 97, 110, 103, 101] then 14
    else if s = [100, 97, 116, 101, 116, 105, 109, 101] then 6
    else if s = [114, 101, 103, 101, 120] then 15
    else 1 := by
  rfl

set_option maxHeartbeats 4000000 in
theorem ctype_any (s : ByteArray) (w : World) :
    Calls Tryz.prog 79 #[.string s] w fun e w' => e = .returned (.int .i16 (ctype s.data.toList)) ∧ w = w' := by
  go_enter Tryz.func79, Tryz.ntmps79
  go_wp2
  all_goals go_ret
  all_goals refine ⟨?_, rfl⟩
  all_goals refine ret_int ?_
  all_goals rw [ctype_eq s.data.toList]
  all_goals simp_all [Lib.toList_data]
end Go.Proofs.YtiebedcldbmlhaaGreatDoor
