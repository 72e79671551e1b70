/-
  The functions strings.IndexByte and findNextCharsetPosition answer the first place of a sign. Conditions: of a size that addresses allow.
-/
import Derived.Test.YtiebedcldbmlhaaGreatDoorA
namespace Go.Proofs.YtiebedcldbmlhaaGreatDoor
open Go.RowKit
set_option linter.unusedVariables false

theorem index_any (s : ByteArray) (c : UInt8) (w : World) :
    Calls Tryz.prog 62 #[.string s, .int .u8 (c.toNat : Int)] w fun e w' => e = .returned (.int .i64 (oi (fb s.data.toList c))) ∧ w = w' :=
  (Tryz.strings_IndexByte s (c.toNat : Int) w).mono fun e w' ⟨he, hw⟩ => ⟨by rw [he, ← indexByte_fb]; congr 3; simp, hw.symm⟩

theorem nextCS_nil (s : Bs) : nextCS s [] = none := by
  unfold nextCS
  exact List.findIdx?_eq_none_iff.2 (by simp)

set_option maxHeartbeats 1000000 in
theorem next_any (s : ByteArray) (b off cap : Nat) (cs : Bs) (w : World) (hs : s.size ≤ 140737488351232) (hl : cs.length ≤ 1000) (hc : ByteCells w b off cs) :
    Calls Tryz.prog 95 #[.string s, .slice (some ⟨b, off, none⟩) cs.length cap] w fun e w' => e = .returned (.int .i64 (oi (nextCS s.data.toList cs))) ∧ w = w' := by
  have HC := Lib.hid hc
  clear hc
  go_enter Tryz.func95, Tryz.ntmps95
  go_wp2
  go_loop [5, 11] (fun nx i => ∃ k : Nat, k ≤ cs.length ∧ i = .int .i64 k ∧ nx = .int .i64 (oi (nextCS s.data.toList (cs.take k)))) (fun _ i => cs.length - (intOf i).toNat)
  case atStart => exact ⟨0, Nat.zero_le _, rfl, by rw [List.take_zero, nextCS_nil]; rfl⟩
  case round =>
    obtain ⟨k, hk, rfl, rfl⟩ := hrel
    by_cases hlt : k < cs.length
    · have hck := HC.out k hlt
      have hst := nextCS_step s.data.toList cs k hlt
      obtain ⟨c, hcd⟩ : ∃ c, c = cs.getD k 0 := ⟨_, rfl⟩
      rw [← hcd] at hck hst
      obtain ⟨x, hx⟩ : ∃ x, x = oi (nextCS s.data.toList (cs.take k)) := ⟨_, rfl⟩
      obtain ⟨y, hy⟩ : ∃ y, y = oi (fb s.data.toList c) := ⟨_, rfl⟩
      rw [← hx, ← hy] at hst
      rw [← hx]
      have HX := Lib.hid hx
      have HY := Lib.hid hy
      have HS := Lib.hid hst
      have HD := Lib.hid hcd
      clear hx hy hst hcd
      go_wp2_with fail
      refine (index_any s c w).mono ?_
      rintro e w' ⟨rfl, rfl⟩
      rw [← HY.out]
      clear hck
      have yb : -1 ≤ y := by rw [HY.out]; exact oi_ge _
      have xb : -1 ≤ x := by rw [HX.out]; exact oi_ge _
      by_cases h : y ≠ -1 ∧ (y < x ∨ x = -1)
      · have HT := Lib.hid (HS.out.trans (stp_take h))
        obtain ⟨h1, h2⟩ := h
        have b1 : (y != -1) = true := by simpa [bne_iff_ne] using h1
        rcases h2 with h2 | h2
        · go_wp2
          all_goals
            go_round
            case rel => exact ⟨k + 1, by omega, by go_num, by rw [HT.out]⟩
            case measure => simp [intOf]; omega
        · subst h2
          go_wp2
          all_goals
            go_round
            case rel => exact ⟨k + 1, by omega, by go_num, by rw [HT.out]⟩
            case measure => simp [intOf]; omega
      · have HT := Lib.hid (HS.out.trans (stp_keep h))
        by_cases h1 : y = -1
        · subst h1
          go_wp2
          all_goals
            go_round
            case rel => exact ⟨k + 1, by omega, by go_num, by rw [HT.out]⟩
            case measure => simp [intOf]; omega
        · have b1 : (y != -1) = true := by simpa [bne_iff_ne] using h1
          have b2 : (x == -1) = false := by rw [beq_eq_false_iff_ne]; omega
          have b3 : ¬ y < x := by omega
          clear h h1
          go_wp2
          all_goals
            go_round
            case rel => exact ⟨k + 1, by omega, by go_num, by rw [HT.out]⟩
            case measure => simp [intOf]; omega
    · obtain rfl : k = cs.length := by omega
      go_wp2
      go_ret
      exact ⟨by simp, rfl⟩
end Go.Proofs.YtiebedcldbmlhaaGreatDoor
