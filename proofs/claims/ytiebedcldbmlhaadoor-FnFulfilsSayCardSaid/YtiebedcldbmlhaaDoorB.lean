/-
  The function short tells whether no text of a list is longer than 2000 bytes and the list has at most 60. Conditions: the list's cells are read in the world at hand.
-/
import Derived.Test.YtiebedcldbmlhaaDoorA
namespace Go.Proofs.YtiebedcldbmlhaaDoor
open Go.RowKit

def shortB (ss : List ByteArray) : Bool := ss.all (fun s => decide (s.size ≤ 2000)) && decide (ss.length ≤ 60)

def StrCells (w : World) (b off : Nat) (ss : List ByteArray) : Prop := ∀ i, i < ss.length → w.cell? ⟨b, off + i, none⟩ = some (.string (ss.getD i ByteArray.empty))

theorem shortB_no {ss : List ByteArray} {k : Nat} (hk : k < ss.length) (h : 2000 < (ss.getD k ByteArray.empty).size) : shortB ss = false := by
  unfold shortB
  rw [Bool.and_eq_false_iff]; left
  rw [List.all_eq_false]
  refine ⟨ss[k], List.getElem_mem _, ?_⟩
  simpa [List.getD, hk] using h

theorem shortB_yes {ss : List ByteArray} (h : ∀ i, i < ss.length → (ss.getD i ByteArray.empty).size ≤ 2000) : shortB ss = decide (ss.length ≤ 60) := by
  unfold shortB
  rw [List.all_eq_true.2, Bool.true_and]
  intro s hs
  obtain ⟨i, hi, rfl⟩ := List.getElem_of_mem hs
  have := h i hi
  simpa [List.getD, hi] using this

set_option maxHeartbeats 400000 in
theorem short_some (b off cap : Nat) (ss : List ByteArray) (w : World) (hl : ss.length ≤ maxLen) (hc : StrCells w b off ss) :
    Calls Tryd.prog 7 #[.slice (some ⟨b, off, none⟩) ss.length cap] w fun e w' => e = .returned (.bool (shortB ss)) ∧ w = w' := by
  unfold maxLen at hl
  have HC := Lib.hid hc
  clear hc
  go_enter Tryd.func7, Tryd.ntmps7
  go_wp2
  go_loop [7] (fun i => ∃ k : Nat, k ≤ ss.length ∧ i = .int .i64 k ∧ (∀ j, j < k → (ss.getD j ByteArray.empty).size ≤ 2000)) (fun i => ss.length - (intOf i).toNat)
  case atStart => exact ⟨0, Nat.zero_le _, rfl, fun j h => absurd h (Nat.not_lt_zero _)⟩
  case round =>
    obtain ⟨k, hk, rfl, hall⟩ := hrel
    have HA := Lib.hid hall
    clear hall
    by_cases hlt : k < ss.length
    · have hck := HC.out k hlt
      obtain ⟨s, hs⟩ : ∃ s, s = ss.getD k ByteArray.empty := ⟨_, rfl⟩
      rw [← hs] at hck
      have HS := Lib.hid hs
      clear hs
      go_wp2
      · go_ret
        exact ⟨ret_bool (shortB_no hlt (by rw [← HS.out]; omega)).symm, rfl⟩
      · go_round
        case rel => exact ⟨k + 1, by omega, by go_num, fun j hj => by
            rcases Nat.lt_or_ge j k with h | h
            · exact HA.out j h
            · obtain rfl : j = k := by omega
              rw [← HS.out]; omega⟩
        case measure => simp [intOf]; omega
    · obtain rfl : k = ss.length := by omega
      go_wp2
      go_ret
      exact ⟨ret_bool (by rw [shortB_yes HA.out]; exact decide_eq_decide.2 (by omega)), rfl⟩

theorem short_nil (w : World) : Calls Tryd.prog 7 #[.slice none 0 0] w fun e w' => e = .returned (.bool true) ∧ w = w' := by
  go_enter Tryd.func7, Tryd.ntmps7
  go_wp2
  refine wp_loop_rounds 1 ?_; rw [rounds_succ]
  go_wp2
  go_ret
  exact ⟨rfl, rfl⟩
end Go.Proofs.YtiebedcldbmlhaaDoor
