/-
  zzCount of a text that is not empty makes no memory. Conditions: of a size that addresses allow.
-/
import Derived.Test.YtiebedcldbmlhaaGreatDoorH
namespace Go.Proofs.YtiebedcldbmlhaaGreatDoor
open Go.RowKit
set_option linter.unusedVariables false

set_option maxHeartbeats 1000000 in
theorem count_quiet (s t : ByteArray) (w : World) (hs : s.size ≤ 140737488351232) (ht : t.size ≤ 140737488351232) (h0 : ¬ t.size = 0) :
    Calls Tryz.prog 82 #[.string s, .string t] w fun e w' => e = .returned (.int .i64 (countS s.data.toList t.data.toList)) ∧ w = w' := by
  go_enter Tryz.func82, Tryz.ntmps82
  have h1 : 1 ≤ t.size := by omega
  have hR : countS s.data.toList t.data.toList = countGo t.data.toList (s.size + 1) s.data.toList := by
    unfold countS
    rw [if_neg (fun h => h0 (by rw [← size_data, h]; rfl)), size_data]
  have HR := Lib.hid hR
  clear hR
  go_wp2
  go_loop [5, 6] (fun n i => ∃ (k fuel m : Nat), i = .int .i64 k ∧ n = .int .i64 m ∧ m ≤ k ∧ k ≤ s.size ∧ s.size + 1 ≤ k + fuel ∧ m + countGo t.data.toList fuel (s.data.toList.drop k) = countGo t.data.toList (s.size + 1) s.data.toList) (fun _ i => s.size - (intOf i).toNat)
  case atStart => exact ⟨0, s.size + 1, 0, rfl, rfl, by omega, by omega, by omega, by simp⟩
  case round =>
    obtain ⟨k, fuel, m, rfl, rfl, hm, hks, hf, hc⟩ := hrel
    have HC := Lib.hid hc
    clear hc
    by_cases hlt : k + t.size ≤ s.size
    · have hsh : ¬ (s.data.toList.drop k).length < t.data.toList.length := by rw [List.length_drop, size_data, size_data]; omega
      obtain ⟨fuel, rfl⟩ : ∃ j, fuel = j + 1 := ⟨fuel - 1, by omega⟩
      have HS := Lib.hid hsh
      clear hsh
      have HP := Lib.hid (ext_pre s t k)
      go_wp2
      · have hb : ((s.extract k (k + t.size)).toList == t.toList) = true := by assumption
        go_round
        case rel =>
          refine ⟨k + t.size, fuel, m + 1, by go_num, by go_num, by omega, by omega, by omega, ?_⟩
          rw [← HC.out, countGo_hit HS.out (HP.out.1 (str_yes hb)), List.drop_drop, size_data]
          omega
        case measure => simp [intOf]; omega
      · have hb : ((s.extract k (k + t.size)).toList == t.toList) = false := by assumption
        go_round
        case rel =>
          refine ⟨k + 1, fuel, m, by go_num, by go_num, by omega, by omega, by omega, ?_⟩
          rw [← HC.out, countGo_miss HS.out (fun h => str_no hb (HP.out.2 h)), List.drop_drop]
        case measure => simp [intOf]; omega
    · have hn : countGo t.data.toList fuel (s.data.toList.drop k) = 0 := countGo_short (by rw [List.length_drop, size_data, size_data]; omega)
      have HN := Lib.hid hn
      clear hn
      go_wp2
      go_ret
      exact ⟨ret_int (by rw [HR.out, ← HC.out, HN.out]; omega), rfl⟩
end Go.Proofs.YtiebedcldbmlhaaGreatDoor
