/-
  The function findNextParamPosition answers where the next parameter begins. Conditions: of a size that addresses allow.
-/
import Derived.Test.YtiebedcldbmlhaaGreatDoorE
namespace Go.Proofs.YtiebedcldbmlhaaGreatDoor
open Go.RowKit
set_option linter.unusedVariables false

theorem nneGo_lt {l cs : Bs} : ∀ {k p q : Nat}, p < l.length → nneGo l cs k p = some q → q < l.length
  | 0, p, q, hp, h => by cases h; exact hp
  | k + 1, p, q, hp, h => by
    unfold nneGo at h
    split at h
    · split at h
      · cases h
      · split at h
        · cases h
        · rename_i r hr
          have := findIdx_lt hr
          rw [List.length_drop] at this
          exact nneGo_lt (by omega) h
    · cases h; exact hp
theorem nne_lt {l cs : Bs} {q : Nat} (h : nne l cs = some q) : q < l.length := by
  unfold nne at h
  split at h
  · cases h
  · rename_i p hp; exact nneGo_lt (findIdx_lt hp) h

set_option maxHeartbeats 1000000 in
theorem paramPos_any (s : ByteArray) (w : World) (hs : s.size ≤ 140737488351232) :
    Calls Tryz.prog 52 #[.string s] w fun e w' => e = .returned (.int .i64 (oi (paramPos s.data.toList))) ∧ Below w.heap.size w w' := by
  go_enter Tryz.func52, Tryz.ntmps52
  go_wp2_with fail
  refine (chars65 _).mono ?_
  rintro e w1 ⟨g1, cap1, rfl, hc1, _, _, hb1⟩
  go_wp2_with fail
  refine (nne_any s g1 0 cap1 starts w1 hs (by decide) hc1).mono ?_
  rintro e w1' ⟨rfl, rfl⟩
  have HB := Lib.hid hb1
  clear hc1 hb1
  cases h : nne s.data.toList starts with
  | none =>
    rw [oi_none]
    have H := Lib.hid h
    clear h
    go_wp2
    go_ret
    exact ⟨ret_int (by unfold paramPos; rw [H.out]; rfl), HB.out⟩
  | some i =>
    have hi : i < s.size := by have := nne_lt h; simpa using this
    have hb := byte_at s i hi
    have HI := Lib.hid hb
    clear hb
    have H := Lib.hid h
    clear h
    rw [oi_some]
    have hbn : ((i : Int) != -1) = true := by simp [bne_iff_ne]
    cases he : (s[i]'hi) == 42 with
    | true =>
      have hq : (((s[i]'hi).toNat : Int) == 42) = true := by rw [u8_beq _ 42 42 rfl]; exact he
      have hq2 : (((s[i]'hi).toNat : Int) != 42) = false := by rw [bne, hq]; rfl
      have HE := Lib.hid he
      clear he hq
      go_wp2
      go_ret
      refine ⟨ret_int ?_, HB.out⟩
      have e : s[i]'hi = 42 := by simpa using HE.out
      unfold paramPos
      rw [H.out]
      simp only
      rw [if_neg (by rw [HI.out, e]; simp)]
      rfl
    | false =>
      have hq : (((s[i]'hi).toNat : Int) == 42) = false := by rw [u8_beq _ 42 42 rfl]; exact he
      have hq2 : (((s[i]'hi).toNat : Int) != 42) = true := by rw [bne, hq]; rfl
      have HE := Lib.hid he
      clear he hq
      go_wp2_with fail
      have e1 : IntKind.i64.wrap ((i : Int) + 1) = (i : Int) + 1 := IntWalk.i64_in _ (by omega)
      have e2 : (0 : Int) ≤ (i : Int) + 1 := by omega
      have e3 : ((i : Int) + 1).toNat = i + 1 := by omega
      have e4 : (i : Int) + 1 ≤ (s.size : Int) := by omega
      have hex := Lib.hid (extract_from s (i + 1))
      go_region_with (first | (go_at_call 65; refine (chars65 _).mono ?_; rintro e w2 ⟨g2, cap2, rfl, hc2, _, _, hb2⟩) | (go_at_call 64; refine (nne_any _ g2 0 cap2 starts _ (by simp; omega) (by decide) (by assumption)).mono ?_; rintro e w2' ⟨rfl, rfl⟩; rw [hex.out]))
      clear e1 e2 e3 e4 hq2
      have HB2 := Lib.hid (HB.out.drew.trans (hb2.mono HB.out.size))
      clear hb2 hc2
      have hne : s[i]'hi ≠ 42 := by simpa using HE.out
      by_cases hz : nne (s.data.toList.drop (i + 1)) starts = some 0
      · have hlt := nne_lt hz
        have hlt2 : i + 1 < s.size := by simp at hlt; omega
        have hp : paramPos s.data.toList = some (i + 1) := by
          unfold paramPos
          rw [H.out]
          simp only
          rw [if_pos ⟨by rw [HI.out]; exact fun h => hne (Option.some.inj h), hz⟩]
        have HP := Lib.hid hp
        rw [hz, oi_some]
        clear hz hlt hp hne
        go_wp2
        refine wp_loop_rounds 1 ?_
        rw [rounds_succ]
        go_wp2
        go_ret
        exact ⟨ret_int (by rw [HP.out]; rfl), HB2.out⟩
      · have hp : paramPos s.data.toList = some i := by
          unfold paramPos
          rw [H.out]
          simp only
          rw [if_neg (fun h => hz h.2)]
        have HP := Lib.hid hp
        obtain ⟨z, hzz⟩ : ∃ z, z = oi (nne (s.data.toList.drop (i + 1)) starts) := ⟨_, rfl⟩
        rw [← hzz]
        have z0 : (z == 0) = false := by
          rw [beq_eq_false_iff_ne, hzz]
          intro h
          apply hz
          cases hN : nne (s.data.toList.drop (i + 1)) starts with
          | none => rw [hN] at h; simp [oi] at h
          | some n => rw [hN] at h; simp [oi] at h; rw [h]
        clear hz hp hne hzz
        go_wp2
        refine wp_loop_rounds 1 ?_
        rw [rounds_succ]
        go_wp2
        go_ret
        exact ⟨ret_int (by rw [HP.out]; rfl), HB2.out⟩
end Go.Proofs.YtiebedcldbmlhaaGreatDoor
