/-
  zzIndex and zzLastIndex, of any text. Conditions: of a size that addresses allow.
-/
import Derived.Test.YtiebedcldbmlhaaGreatDoorF
namespace Go.Proofs.YtiebedcldbmlhaaGreatDoor
open Go.RowKit
set_option linter.unusedVariables false

theorem extract_range (s : ByteArray) (i j : Nat) : (s.extract i j).data.toList = (s.data.toList.drop i).take (j - i) := by
  simp [ByteArray.data_extract]
theorem bytes_ext {a b : ByteArray} : a = b ↔ a.data.toList = b.data.toList :=
  ⟨fun h => by rw [h], fun h => by rw [← bs_of a, ← bs_of b, h]⟩
theorem str_yes {a b : ByteArray} (h : (a.toList == b.toList) = true) : a = b := by
  rw [beq_iff_eq, Lib.toList_data, Lib.toList_data] at h
  exact bytes_ext.2 h
theorem str_no {a b : ByteArray} (h : (a.toList == b.toList) = false) : a ≠ b := by
  rintro rfl
  simp at h
theorem pre_iff (a b : Bs) : a.isPrefixOf b = true ↔ b.take a.length = a := by
  rw [List.isPrefixOf_iff_prefix, List.prefix_iff_eq_take]
  exact ⟨fun h => h.symm, fun h => h.symm⟩
theorem ext_pre (s t : ByteArray) (k : Nat) : s.extract k (k + t.size) = t ↔ t.data.toList.isPrefixOf (s.data.toList.drop k) = true := by
  rw [bytes_ext, extract_range, pre_iff, size_data]
  simp

theorem idxGo_short {sub s : Bs} {k i : Nat} (h : s.length < sub.length) : idxGo sub k s i = none := by
  cases k with
  | zero => rfl
  | succ k => unfold idxGo; rw [if_pos h]
theorem idxGo_hit {sub s : Bs} {k i : Nat} (h : ¬ s.length < sub.length) (hp : sub.isPrefixOf s = true) : idxGo sub (k + 1) s i = some i := by
  unfold idxGo; rw [if_neg h, if_pos hp]
theorem idxGo_miss {sub s : Bs} {k i : Nat} (h : ¬ s.length < sub.length) (hp : ¬ sub.isPrefixOf s = true) : idxGo sub (k + 1) s i = idxGo sub k (s.drop 1) (i + 1) := by
  conv => lhs; unfold idxGo
  rw [if_neg h, if_neg hp]

set_option maxHeartbeats 1000000 in
theorem idx_any (s t : ByteArray) (w : World) (hs : s.size ≤ 140737488351232) (ht : t.size ≤ 140737488351232) :
    Calls Tryz.prog 85 #[.string s, .string t] w fun e w' => e = .returned (.int .i64 (oi (idx s.data.toList t.data.toList))) ∧ w = w' := by
  go_enter Tryz.func85, Tryz.ntmps85
  go_wp2
  go_loop [5] (fun p => ∃ k : Nat, p = .int .i64 k ∧ k ≤ s.size + 1 ∧ idxGo t.data.toList (s.size + 1 - k) (s.data.toList.drop k) k = idx s.data.toList t.data.toList) (fun p => s.size + 1 - (intOf p).toNat)
  case atStart => exact ⟨0, rfl, by omega, by unfold idx; simp⟩
  case round =>
    obtain ⟨k, rfl, hk, hg⟩ := hrel
    have HG := Lib.hid hg
    clear hg
    by_cases hlt : k + t.size ≤ s.size
    · have hsh : ¬ (s.data.toList.drop k).length < t.data.toList.length := by rw [List.length_drop, size_data, size_data]; omega
      have e : s.size + 1 - k = (s.size + 1 - (k + 1)) + 1 := by omega
      have HE := Lib.hid e
      have HS := Lib.hid hsh
      clear e hsh
      have HP := Lib.hid (ext_pre s t k)
      go_wp2
      · have hb : ((s.extract k (k + t.size)).toList == t.toList) = true := by assumption
        go_ret
        refine ⟨ret_int ?_, rfl⟩
        rw [← HG.out, HE.out, idxGo_hit HS.out (HP.out.1 (str_yes hb))]
        rfl
      · have hb : ((s.extract k (k + t.size)).toList == t.toList) = false := by assumption
        go_round
        case rel =>
          refine ⟨k + 1, by go_num, by omega, ?_⟩
          rw [← HG.out, HE.out, idxGo_miss HS.out (fun h => str_no hb (HP.out.2 h)), List.drop_drop]
        case measure => simp [intOf]; omega
    · have hlt' : s.size < k + t.size := by omega
      have hn : idxGo t.data.toList (s.size + 1 - k) (s.data.toList.drop k) k = none := by
        by_cases hz : k = s.size + 1
        · rw [hz, Nat.sub_self]; rfl
        · exact idxGo_short (by rw [List.length_drop, size_data, size_data]; omega)
      have HN := Lib.hid hn
      clear hn
      go_wp2
      go_ret
      exact ⟨ret_int (by rw [← HG.out, HN.out]; rfl), rfl⟩

theorem lastGo_hit {sub s : Bs} {k : Nat} (hp : sub.isPrefixOf (s.drop k) = true) : lastGo s sub (k + 1) = some k := by
  unfold lastGo; rw [if_pos hp]
theorem lastGo_miss {sub s : Bs} {k : Nat} (hp : ¬ sub.isPrefixOf (s.drop k) = true) : lastGo s sub (k + 1) = lastGo s sub k := by
  conv => lhs; unfold lastGo
  rw [if_neg hp]

set_option maxHeartbeats 1000000 in
theorem lastIdx_any (s t : ByteArray) (w : World) (hs : s.size ≤ 140737488351232) (ht : t.size ≤ 140737488351232) :
    Calls Tryz.prog 100 #[.string s, .string t] w fun e w' => e = .returned (.int .i64 (oi (lastIdx s.data.toList t.data.toList))) ∧ w = w' := by
  go_enter Tryz.func100, Tryz.ntmps100
  go_wp2
  go_loop [5] (fun p => (∃ k : Nat, p = .int .i64 k ∧ k + t.size ≤ s.size ∧ lastGo s.data.toList t.data.toList (k + 1) = lastIdx s.data.toList t.data.toList) ∨ (∃ q : Int, p = .int .i64 q ∧ -140737488351232 ≤ q ∧ q < 0 ∧ lastIdx s.data.toList t.data.toList = none)) (fun p => (intOf p + 1).toNat)
  case atStart =>
    by_cases h : s.size < t.size
    · refine .inr ⟨_, rfl, ?_, ?_, by unfold lastIdx; rw [if_pos (by rw [size_data, size_data]; omega)]⟩
      · omega
      · omega
    · exact .inl ⟨s.size - t.size, by go_num, by omega, by unfold lastIdx; rw [if_neg (by rw [size_data, size_data]; omega), size_data, size_data]⟩
  case round =>
    rcases hrel with ⟨k, rfl, hk, hg⟩ | ⟨q, rfl, hq0, hq, hN⟩
    · have HG := Lib.hid hg
      clear hg
      have HP := Lib.hid (ext_pre s t k)
      go_wp2
      · have hb : ((s.extract k (k + t.size)).toList == t.toList) = true := by assumption
        go_ret
        refine ⟨ret_int ?_, rfl⟩
        rw [← HG.out, lastGo_hit (HP.out.1 (str_yes hb))]
        rfl
      · have hb : ((s.extract k (k + t.size)).toList == t.toList) = false := by assumption
        have hm := lastGo_miss (fun h => str_no hb (HP.out.2 h))
        go_round
        case rel =>
          cases k with
          | zero => exact .inr ⟨-1, by go_num, by omega, by omega, by rw [← HG.out, hm]; rfl⟩
          | succ k => exact .inl ⟨k, by go_num, by omega, by rw [← HG.out, hm]⟩
        case measure => simp [intOf]
    · have HN := Lib.hid hN
      clear hN
      go_wp2
      go_ret
      exact ⟨ret_int (by rw [HN.out]; rfl), rfl⟩
end Go.Proofs.YtiebedcldbmlhaaGreatDoor
