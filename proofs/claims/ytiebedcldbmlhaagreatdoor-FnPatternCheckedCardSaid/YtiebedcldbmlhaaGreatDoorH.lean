/-
  zzCount, of any text; zzIndexRune and zzContainsRune, of any text and a rune that is one byte. Conditions: of a size that addresses allow.
-/
import Derived.Test.YtiebedcldbmlhaaGreatDoorG
import Derived.Laws.RangeAny
import Derived.Lib.TrimU
namespace Go.Proofs.YtiebedcldbmlhaaGreatDoor
open Go.RowKit
set_option linter.unusedVariables false

theorem countGo_short {sub s : Bs} {k : Nat} (h : s.length < sub.length) : countGo sub k s = 0 := by
  cases k with
  | zero => rfl
  | succ k => unfold countGo; rw [if_pos h]
theorem countGo_hit {sub s : Bs} {k : Nat} (h : ¬ s.length < sub.length) (hp : sub.isPrefixOf s = true) : countGo sub (k + 1) s = countGo sub k (s.drop sub.length) + 1 := by
  conv => lhs; unfold countGo
  rw [if_neg h, if_pos hp]
theorem countGo_miss {sub s : Bs} {k : Nat} (h : ¬ s.length < sub.length) (hp : ¬ sub.isPrefixOf s = true) : countGo sub (k + 1) s = countGo sub k (s.drop 1) := by
  conv => lhs; unfold countGo
  rw [if_neg h, if_neg hp]

theorem iter_below (w : World) (s : ByteArray) (p : Nat) : Below w.heap.size w (w.iter s p) := (Below.refl _ _).alloc (Nat.le_refl _) _
theorem iterPos_of' {w : World} {s : ByteArray} {p : Nat} : (w.iter s p).iterPos w.heap.size = p := World.iterPos_iter w s p

theorem Utf8_end (s : ByteArray) (pos : Nat) (h : pos < s.size) : pos + (Utf8.decode s pos).2 ≤ s.size := by
  have hb : ∀ k, (s.get! (pos + k)).toNat < 256 := fun k => (s.get! (pos + k)).toNat_lt
  simp only [Utf8.decode]
  repeat' split
  all_goals simp_all
  all_goals omega

/-- No byte that a rune of more than one byte takes is below 128. -/
theorem Utf8_high (s : ByteArray) (pos : Nat) (h : pos < s.size) (ha : 128 ≤ (s[pos]'h).toNat) (j : Nat) (hj : j < (Utf8.decode s pos).2) : 128 ≤ (s.get! (pos + j)).toNat := by
  rw [← get_at s pos h] at ha
  revert hj
  simp only [Utf8.decode]
  have hn : ¬ (s.get! (pos + 0)).toNat < 128 := by omega
  rw [if_neg hn]
  intro hj
  have h01 : j = 0 → 128 ≤ (s.get! (pos + j)).toNat := by rintro rfl; exact ha
  split at hj
  · rename_i hc
    simp at hc
    have : j < 2 := by split at hj <;> simp at hj <;> omega
    rcases (by omega : j = 0 ∨ j = 1) with rfl | rfl
    · exact ha
    · omega
  · split at hj
    · rename_i hc
      simp at hc
      have : j < 3 := by split at hj <;> simp at hj <;> omega
      rcases (by omega : j = 0 ∨ j = 1 ∨ j = 2) with rfl | rfl | rfl
      · exact ha
      · omega
      · omega
    · split at hj
      · rename_i hc
        simp at hc
        have : j < 4 := by split at hj <;> simp at hj <;> omega
        rcases (by omega : j = 0 ∨ j = 1 ∨ j = 2 ∨ j = 3) with rfl | rfl | rfl | rfl
        · exact ha
        · omega
        · omega
        · omega
      · simp at hj; exact h01 hj

set_option maxHeartbeats 1000000 in
theorem count_any (s t : ByteArray) (w : World) (hs : s.size ≤ 140737488351232) (ht : t.size ≤ 140737488351232) :
    Calls Tryz.prog 82 #[.string s, .string t] w fun e w' => e = .returned (.int .i64 (countS s.data.toList t.data.toList)) ∧ Below w.heap.size w w' := by
  go_enter Tryz.func82, Tryz.ntmps82
  by_cases h0 : t.size = 0
  · have hR : countS s.data.toList t.data.toList = Lib.runeCountFrom s s.size 0 + 1 := by
      unfold countS
      rw [if_pos (List.length_eq_zero_iff.1 (by rw [size_data]; exact h0)), Lib.runeCountL_eq]; rfl
    have HR := Lib.hid hR
    clear hR
    go_wp2
    go_loopw [5] (fun n wr => ∃ (pos fuel m : Nat), wr = w.iter s pos ∧ n = .int .i64 m ∧ m ≤ pos ∧ pos ≤ s.size ∧ s.size ≤ pos + fuel ∧ m + Lib.runeCountFrom s fuel pos = Lib.runeCountFrom s s.size 0) (fun _ wr => s.size - wr.iterPos w.heap.size)
    case atStart => exact ⟨0, s.size, 0, rfl, rfl, by omega, by omega, by omega, by omega⟩
    case round =>
      obtain ⟨pos, fuel, m, rfl, rfl, hm, hps, hf, hc⟩ := hrel
      have HC := Lib.hid hc
      clear hc
      by_cases hp : pos < s.size
      · have hnx : ∀ ty, (Instr.next (.pointer (some ⟨w.heap.size, 0, none⟩)) true ty).run Tryz.prog (w.iter s pos) = _ := fun ty => run_next_any w s pos ty hp
        have hwd := Lib.width_pos s pos
        have hwe := Utf8_end s pos hp
        have hd1 := decode_le s pos
        obtain ⟨f, rfl⟩ : ∃ f, fuel = f + 1 := ⟨fuel - 1, by omega⟩
        go_wp2
        go_roundw
        case rel => exact ⟨pos + (Utf8.decode s pos).2, f, m + 1, rfl, by go_num, by omega, by omega, by omega, by rw [← HC.out]; simp only [Lib.runeCountFrom, if_pos hp]; omega⟩
        case measure =>
          rw [iterPos_of', iterPos_of']
          omega
      · have hnx : ∀ ty, (Instr.next (.pointer (some ⟨w.heap.size, 0, none⟩)) true ty).run Tryz.prog (w.iter s pos) = _ := fun ty => run_next_end w s pos ty hp
        have hz := Lib.hid (Lib.runeCountFrom_end s fuel pos hp)
        go_wp2
        go_ret
        exact ⟨ret_int (by rw [HR.out, ← HC.out, hz.out]; omega), iter_below w s pos⟩
  · have h1 : 1 ≤ t.size := by omega
    have hR : countS s.data.toList t.data.toList = countGo t.data.toList (s.size + 1) s.data.toList := by
      unfold countS
      rw [if_neg (fun h => h0 (by rw [← size_data, h]; rfl)), size_data]
    have HR := Lib.hid hR
    clear hR
    go_wp2
    go_loop [5, 6] (fun n i => ∃ (k fuel m : Nat), i = .int .i64 k ∧ n = .int .i64 m ∧ m ≤ k ∧ k ≤ s.size ∧ s.size + 1 ≤ k + fuel ∧ m + countGo t.data.toList fuel (s.data.toList.drop k) = countGo t.data.toList (s.size + 1) s.data.toList) (fun _ i => s.size - (intOf i).toNat)
    case atStart => exact ⟨0, s.size + 1, 0, rfl, rfl, by omega, by omega, by omega, by simp⟩
    case round =>
      obtain ⟨k, fuel, m, rfl, rfl, hm, hks, hf, hc⟩ := hrel
      have HC := Lib.hid hc
      clear hc
      by_cases hlt : k + t.size ≤ s.size
      · have hsh : ¬ (s.data.toList.drop k).length < t.data.toList.length := by rw [List.length_drop, size_data, size_data]; omega
        obtain ⟨fuel, rfl⟩ : ∃ j, fuel = j + 1 := ⟨fuel - 1, by omega⟩
        have HS := Lib.hid hsh
        clear hsh
        have HP := Lib.hid (ext_pre s t k)
        go_wp2
        · have hb : ((s.extract k (k + t.size)).toList == t.toList) = true := by assumption
          go_round
          case rel =>
            refine ⟨k + t.size, fuel, m + 1, by go_num, by go_num, by omega, by omega, by omega, ?_⟩
            rw [← HC.out, countGo_hit HS.out (HP.out.1 (str_yes hb)), List.drop_drop, size_data]
            omega
          case measure => simp [intOf]; omega
        · have hb : ((s.extract k (k + t.size)).toList == t.toList) = false := by assumption
          go_round
          case rel =>
            refine ⟨k + 1, fuel, m, by go_num, by go_num, by omega, by omega, by omega, ?_⟩
            rw [← HC.out, countGo_miss HS.out (fun h => str_no hb (HP.out.2 h)), List.drop_drop]
          case measure => simp [intOf]; omega
      · have hn : countGo t.data.toList fuel (s.data.toList.drop k) = 0 := countGo_short (by rw [List.length_drop, size_data, size_data]; omega)
        have HN := Lib.hid hn
        clear hn
        go_wp2
        go_ret
        exact ⟨ret_int (by rw [HR.out, ← HC.out, HN.out]; omega), Below.refl _ _⟩
end Go.Proofs.YtiebedcldbmlhaaGreatDoor
