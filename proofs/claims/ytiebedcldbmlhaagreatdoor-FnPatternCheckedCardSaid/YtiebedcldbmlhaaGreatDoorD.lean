/-
  Lists of signs, and whether a sign is in a list. Conditions: of a size that addresses allow.
-/
import Derived.Test.YtiebedcldbmlhaaGreatDoorW1
import Derived.Deep.QuietTactic
import Derived.BigQuiet
import Derived.Deep.RegionWith
namespace Go.Proofs.YtiebedcldbmlhaaGreatDoor
open Go.RowKit
set_option linter.unusedVariables false

theorem chars68 (w : World) : Calls Tryz.prog 68 #[] w (Chars ends w) := by
  obtain ⟨i0, hi, hz0, hz1, hz2⟩ := info_parts info5
  go_enter Tryz.func68, Tryz.ntmps68
  go_wp2_with fail
  refine (chars70 _).mono ?_
  rintro e w1 ⟨g, cap, rfl, hc, hg, hg2, hb⟩
  have hc0 := bytes_alloc w [63] 5 (0, 0)
  have hc1 : ByteCells w1 w.heap.size 0 [63] := hc0.below hb (by simp)
  have HC := Lib.hid hc
  have HC1 := Lib.hid hc1
  have HB := Lib.hid hb
  clear hc hc0 hc1 hb
  go_wp2_with (refine wpList_append_new _ rfl _ _ 23 rfl 5 i0 (.int .u8 0) 1 Tryz.underlying23 hi hz0 hz1 hz2 rfl (some ⟨w.heap.size, 0, none⟩) 1 1 (bvals [63]) rfl (by intro h; cases h) rfl (by intro b hb; cases hb; exact bytes_add HC1.out) ⟨g, 0, none⟩ 5 cap (bvals delims) rfl rfl (bytes_add HC.out) (bvals_one _) (by omega) (by simp [maxLen]) (by omega) ?_; intro g' cap' w2 h1 h2 h3 h4)
  go_ret
  refine ⟨g', cap', rfl, bytes_of h3, ?_, h2, ?_⟩
  · have := HB.out.size; simp at this; omega
  · exact ((Below.refl _ _).alloc (Nat.le_refl _) _).trans ((HB.out.mono (by simp)).trans ((below_grown h4).mono (by have := HB.out.size; simp at this; omega)))

theorem in_yes {cs : Bs} {k : Nat} {c : UInt8} (hk : k < cs.length) (h : cs.getD k 0 = c) : cs.contains c = true := by
  rw [List.contains_iff_mem, ← h]
  simp [List.getD, hk]
theorem in_no {cs : Bs} {c : UInt8} (h : ∀ j, j < cs.length → cs.getD j 0 ≠ c) : cs.contains c = false := by
  rw [Bool.eq_false_iff]
  intro hc
  rw [List.contains_iff_mem] at hc
  obtain ⟨j, hj, e⟩ := List.getElem_of_mem hc
  exact h j hj (by simp [List.getD, hj, e])

theorem in_any (c : UInt8) (b off cap : Nat) (cs : Bs) (w : World) (hl : cs.length ≤ 1000) (hc : ByteCells w b off cs) :
    Calls Tryz.prog 69 #[.int .u8 (c.toNat : Int), .slice (some ⟨b, off, none⟩) cs.length cap] w fun e w' => e = .returned (.bool (cs.contains c)) ∧ w = w' := by
  have HC := Lib.hid hc
  clear hc
  have hc256 : (c.toNat : Int) < 256 := by have := c.toNat_lt; omega
  go_enter Tryz.func69, Tryz.ntmps69
  go_wp2
  go_loop [9] (fun i => ∃ k : Nat, k ≤ cs.length ∧ i = .int .i64 k ∧ (∀ j, j < k → cs.getD j 0 ≠ c)) (fun i => cs.length - (intOf i).toNat)
  case atStart => exact ⟨0, Nat.zero_le _, rfl, fun j h => absurd h (Nat.not_lt_zero _)⟩
  case round =>
    obtain ⟨k, hk, rfl, hall⟩ := hrel
    have HA := Lib.hid hall
    clear hall
    by_cases hlt : k < cs.length
    · have hck := HC.out k hlt
      obtain ⟨d, hd⟩ : ∃ d, d = cs.getD k 0 := ⟨_, rfl⟩
      rw [← hd] at hck
      have HD := Lib.hid hd
      clear hd
      cases he : d == c with
      | true =>
        have hq : ((d.toNat : Int) == (c.toNat : Int)) = true := by rw [u8_beq d c _ rfl]; exact he
        have HE := Lib.hid he
        clear he
        go_wp2
        go_ret
        exact ⟨ret_bool (by have := in_yes hlt (c := c) (by rw [← HD.out]; simpa using HE.out); simpa using this), rfl⟩
      | false =>
        have hq : ((d.toNat : Int) == (c.toNat : Int)) = false := by rw [u8_beq d c _ rfl]; exact he
        have HE := Lib.hid he
        clear he
        go_wp2
        go_round
        case rel => exact ⟨k + 1, by omega, by go_num, fun j hj => by
            rcases Nat.lt_or_ge j k with h | h
            · exact HA.out j h
            · obtain rfl : j = k := by omega
              rw [← HD.out]; simpa using HE.out⟩
        case measure => simp [intOf]; omega
    · obtain rfl : k = cs.length := by omega
      go_wp2
      go_ret
      exact ⟨ret_bool (by have := in_no HA.out; simpa using this), rfl⟩
end Go.Proofs.YtiebedcldbmlhaaGreatDoor
