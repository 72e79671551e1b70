/-
  The laws' own small functions: holds, short, word, begins, ends, zzFits1. Conditions: of a size that addresses allow.
-/
import Derived.Test.YtiebedcldbmlhaaGreatDoorW1
import Derived.Test.YtiebedcldbmlhaaGreatDoorP
namespace Go.Proofs.YtiebedcldbmlhaaGreatDoor
open Go.RowKit
set_option linter.unusedVariables false

theorem any_drop {s : ByteArray} {k : Nat} (hk : k < s.size) (f : UInt8 → Bool) : (s.data.toList.drop k).any f = (f (s[k]'hk) || (s.data.toList.drop (k + 1)).any f) := by
  rw [List.drop_eq_getElem_cons (by simpa using hk), List.any_cons]
  rfl
theorem all_drop {s : ByteArray} {k : Nat} (hk : k < s.size) (f : UInt8 → Bool) : (s.data.toList.drop k).all f = (f (s[k]'hk) && (s.data.toList.drop (k + 1)).all f) := by
  rw [List.drop_eq_getElem_cons (by simpa using hk), List.all_cons]
  rfl
theorem drop_all (s : ByteArray) : s.data.toList.drop s.size = [] := List.drop_of_length_le (by rw [size_data]; exact Nat.le_refl _)

def holdsB (l : Bs) (c : UInt8) : Bool := l.any (· == c)
set_option maxHeartbeats 1000000 in
theorem holds_any (s : ByteArray) (c : UInt8) (w : World) (hs : s.size ≤ 140737488351232) :
    Calls Tryz.prog 21 #[.string s, .int .u8 (c.toNat : Int)] w fun e w' => e = .returned (.bool (holdsB s.data.toList c)) ∧ w = w' := by
  go_enter Tryz.func21, Tryz.ntmps21
  go_wp2
  go_loop [8] (fun i => ∃ k : Nat, k ≤ s.size ∧ i = .int .i64 k ∧ holdsB s.data.toList c = (s.data.toList.drop k).any (· == c)) (fun i => s.size - (intOf i).toNat)
  case atStart => exact ⟨0, Nat.zero_le _, rfl, by rw [List.drop_zero]; rfl⟩
  case round =>
    obtain ⟨k, hk, rfl, hall⟩ := hrel
    have HA := Lib.hid hall
    clear hall
    by_cases hlt : k < s.size
    · have HD := Lib.hid (any_drop hlt (· == c))
      cases he : (s[k]'hlt) == c with
      | true =>
        have hq : (((s[k]'hlt).toNat : Int) == (c.toNat : Int)) = true := by
          have := eq_of_beq he
          rw [this]; simp
        have HE := Lib.hid he
        clear he
        go_wp2
        go_ret
        exact ⟨ret_bool (by rw [HA.out, HD.out, HE.out]; rfl), rfl⟩
      | false =>
        have hq : (((s[k]'hlt).toNat : Int) == (c.toNat : Int)) = false := by
          rw [beq_eq_false_iff_ne] at he ⊢
          intro h
          exact he (UInt8.toNat_inj.1 (by omega))
        have HE := Lib.hid he
        clear he
        go_wp2
        go_round
        case rel => exact ⟨k + 1, by omega, by go_num, by rw [HA.out, HD.out, HE.out]; rfl⟩
        case measure => simp [intOf]; omega
    · obtain rfl : k = s.size := by omega
      go_wp2
      go_ret
      exact ⟨ret_bool (by rw [HA.out, drop_all]; rfl), rfl⟩

def shortB (ss : List ByteArray) : Bool := ss.all (fun s => decide (s.size ≤ 2000)) && decide (ss.length ≤ 60)
def StrCells (w : World) (b off : Nat) (ss : List ByteArray) : Prop := ∀ i, i < ss.length → w.cell? ⟨b, off + i, none⟩ = some (.string (ss.getD i ByteArray.empty))
theorem shortB_no {ss : List ByteArray} {k : Nat} (hk : k < ss.length) (h : 2000 < (ss.getD k ByteArray.empty).size) : shortB ss = false := by
  unfold shortB
  rw [Bool.and_eq_false_iff]; left
  rw [List.all_eq_false]
  refine ⟨ss[k], List.getElem_mem _, ?_⟩
  simpa [List.getD, hk] using h
theorem shortB_yes {ss : List ByteArray} (h : ∀ i, i < ss.length → (ss.getD i ByteArray.empty).size ≤ 2000) : shortB ss = decide (ss.length ≤ 60) := by
  unfold shortB
  rw [List.all_eq_true.2, Bool.true_and]
  intro s hs
  obtain ⟨i, hi, rfl⟩ := List.getElem_of_mem hs
  have := h i hi
  simpa [List.getD, hi] using this

set_option maxHeartbeats 400000 in
theorem short_some (b off cap : Nat) (ss : List ByteArray) (w : World) (hl : ss.length ≤ maxLen) (hc : StrCells w b off ss) :
    Calls Tryz.prog 22 #[.slice (some ⟨b, off, none⟩) ss.length cap] w fun e w' => e = .returned (.bool (shortB ss)) ∧ w = w' := by
  unfold maxLen at hl
  have HC := Lib.hid hc
  clear hc
  go_enter Tryz.func22, Tryz.ntmps22
  go_wp2
  go_loop [7] (fun i => ∃ k : Nat, k ≤ ss.length ∧ i = .int .i64 k ∧ (∀ j, j < k → (ss.getD j ByteArray.empty).size ≤ 2000)) (fun i => ss.length - (intOf i).toNat)
  case atStart => exact ⟨0, Nat.zero_le _, rfl, fun j h => absurd h (Nat.not_lt_zero _)⟩
  case round =>
    obtain ⟨k, hk, rfl, hall⟩ := hrel
    have HA := Lib.hid hall
    clear hall
    by_cases hlt : k < ss.length
    · have hck := HC.out k hlt
      obtain ⟨s, hs⟩ : ∃ s, s = ss.getD k ByteArray.empty := ⟨_, rfl⟩
      rw [← hs] at hck
      have HS := Lib.hid hs
      clear hs
      go_wp2
      · go_ret
        exact ⟨ret_bool (shortB_no hlt (by rw [← HS.out]; omega)).symm, rfl⟩
      · go_round
        case rel => exact ⟨k + 1, by omega, by go_num, fun j hj => by
            rcases Nat.lt_or_ge j k with h | h
            · exact HA.out j h
            · obtain rfl : j = k := by omega
              rw [← HS.out]; omega⟩
        case measure => simp [intOf]; omega
    · obtain rfl : k = ss.length := by omega
      go_wp2
      go_ret
      exact ⟨ret_bool (by rw [shortB_yes HA.out]; exact decide_eq_decide.2 (by omega)), rfl⟩

/-- word, as the law's function has it. -/
def wordS (l : Bs) : Bool := l.all wordB && !l.isEmpty

theorem bits_nat : ∀ n : Fin 256, Go.bits BinOp.or IntKind.u8 ((n.val : Nat) : Int) 32 = (((UInt8.ofNat n.val) ||| 32).toNat : Int) := by decide +kernel
theorem bits_32 (c : UInt8) : Go.bits BinOp.or IntKind.u8 (c.toNat : Int) 32 = ((c ||| 32).toNat : Int) := by
  have := bits_nat ⟨c.toNat, c.toNat_lt⟩
  simpa using this
theorem word_no {c : UInt8} (h : (((c ||| 32).toNat : Int) < 97 ∨ 122 < ((c ||| 32).toNat : Int)) ∧ ((c.toNat : Int) < 48 ∨ 57 < (c.toNat : Int))) : wordB c = false := by
  unfold wordB
  have h1 : (decide ((c ||| 32) < 97) || decide (122 < (c ||| 32))) = true := by
    rw [Bool.or_eq_true, decide_eq_true_iff, decide_eq_true_iff, UInt8.lt_iff_toNat_lt, UInt8.lt_iff_toNat_lt]
    have := h.1
    simp only [show (97 : UInt8).toNat = 97 from rfl, show (122 : UInt8).toNat = 122 from rfl]
    omega
  have h2 : (decide (c < 48) || decide (57 < c)) = true := by
    rw [Bool.or_eq_true, decide_eq_true_iff, decide_eq_true_iff, UInt8.lt_iff_toNat_lt, UInt8.lt_iff_toNat_lt]
    have := h.2
    simp only [show (48 : UInt8).toNat = 48 from rfl, show (57 : UInt8).toNat = 57 from rfl]
    omega
  rw [h1, h2]; rfl
theorem word_yes {c : UInt8} (h : ¬ ((((c ||| 32).toNat : Int) < 97 ∨ 122 < ((c ||| 32).toNat : Int)) ∧ ((c.toNat : Int) < 48 ∨ 57 < (c.toNat : Int)))) : wordB c = true := by
  cases hw : wordB c with
  | true => rfl
  | false =>
    exfalso
    apply h
    unfold wordB at hw
    rw [Bool.not_eq_false', Bool.and_eq_true, Bool.or_eq_true, Bool.or_eq_true, decide_eq_true_iff, decide_eq_true_iff, decide_eq_true_iff, decide_eq_true_iff, UInt8.lt_iff_toNat_lt, UInt8.lt_iff_toNat_lt, UInt8.lt_iff_toNat_lt, UInt8.lt_iff_toNat_lt] at hw
    simp only [show (97 : UInt8).toNat = 97 from rfl, show (122 : UInt8).toNat = 122 from rfl, show (48 : UInt8).toNat = 48 from rfl, show (57 : UInt8).toNat = 57 from rfl] at hw
    omega
theorem isEmpty_size (s : ByteArray) : s.data.toList.isEmpty = decide (s.size = 0) := by
  rw [Bool.eq_iff_iff, List.isEmpty_iff, decide_eq_true_iff, ← size_data, List.length_eq_zero_iff]

set_option maxHeartbeats 1000000 in
theorem word_any (s : ByteArray) (w : World) (hs : s.size ≤ 140737488351232) :
    Calls Tryz.prog 20 #[.string s] w fun e w' => e = .returned (.bool (wordS s.data.toList)) ∧ w = w' := by
  go_enter Tryz.func20, Tryz.ntmps20
  go_wp2
  go_loop [7] (fun i => ∃ k : Nat, k ≤ s.size ∧ i = .int .i64 k ∧ s.data.toList.all wordB = (s.data.toList.drop k).all wordB) (fun i => s.size - (intOf i).toNat)
  case atStart => exact ⟨0, Nat.zero_le _, rfl, by rw [List.drop_zero]⟩
  case round =>
    obtain ⟨k, hk, rfl, hall⟩ := hrel
    have HA := Lib.hid hall
    clear hall
    by_cases hlt : k < s.size
    · have HD := Lib.hid (all_drop hlt wordB)
      have hb := bits_32 (s[k]'hlt)
      obtain ⟨y, hy⟩ : ∃ y : Nat, y = ((s[k]'hlt) ||| 32).toNat := ⟨_, rfl⟩
      rw [← hy] at hb
      have HY := Lib.hid hy
      clear hy
      by_cases hc : (((y : Nat) : Int) < 97 ∨ 122 < ((y : Nat) : Int)) ∧ (((s[k]'hlt).toNat : Int) < 48 ∨ 57 < ((s[k]'hlt).toNat : Int))
      · have HW := Lib.hid (word_no (c := s[k]'hlt) (by rw [← HY.out]; exact hc))
        obtain ⟨hc1, hc2⟩ := hc
        go_wp2
        all_goals first
          | (exfalso; omega)
          | (go_ret; exact ⟨ret_bool (by unfold wordS; rw [HA.out, HD.out, HW.out]; rfl), rfl⟩)
      · have HW := Lib.hid (word_yes (c := s[k]'hlt) (by rw [← HY.out]; exact hc))
        go_wp2
        all_goals first
          | (exfalso; omega)
          | (go_round
             case rel => exact ⟨k + 1, by omega, by go_num, by rw [HA.out, HD.out, HW.out]; rfl⟩
             case measure => simp [intOf]; omega)
    · obtain rfl : k = s.size := by omega
      go_wp2
      go_ret
      refine ⟨ret_bool ?_, rfl⟩
      unfold wordS
      rw [HA.out, drop_all, Lib.toList_data]
      rfl
end Go.Proofs.YtiebedcldbmlhaaGreatDoor
