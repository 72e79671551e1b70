/-
  The small functions of the measure: truth, ascii, fold. Conditions: of a size that addresses allow.
-/
import Derived.Test.YtiebedcldbmlhaaDoorS
namespace Go.Proofs.YtiebedcldbmlhaaDoor
open Go.RowKit
open Fl (ns signOf isD ns_drop ns_len ns_end ns_lt ns_tail)
set_option linter.unusedVariables false

theorem fold_any (c : Nat) (hc : c < 256) (w : World) : Calls Tryd.prog 23 #[.int .u8 c] w fun e w' => e = .returned (.int .u8 (Fl.up c)) ∧ w' = w := by
  have hup : Fl.up c = if 65 ≤ c ∧ c ≤ 90 then c + 32 else c := rfl
  have HU := Lib.hid hup
  clear hup
  go_enter Tryd.func23, Tryd.ntmps23
  by_cases h : 65 ≤ c ∧ c ≤ 90
  · have b1 : decide ((65 : Int) ≤ (c : Int)) = true := decide_eq_true (by omega)
    have b2 : decide ((c : Int) ≤ 90) = true := decide_eq_true (by omega)
    have hc90 := h.2
    have HH := Lib.hid h
    clear h
    go_wp2_with fail
    go_ret
    refine ⟨?_, rfl⟩
    rw [HU.out, if_pos HH.out]
    go_num
  · have HH := Lib.hid h
    rcases (show c < 65 ∨ (65 ≤ c ∧ 90 < c) by omega) with h1 | ⟨h1, h2⟩
    · have b1 : decide ((65 : Int) ≤ (c : Int)) = false := decide_eq_false (by omega)
      clear h
      go_wp2_with fail
      go_ret
      exact ⟨by rw [HU.out, if_neg HH.out]; rfl, rfl⟩
    · have b1 : decide ((65 : Int) ≤ (c : Int)) = true := decide_eq_true (by omega)
      have b2 : decide ((c : Int) ≤ 90) = false := decide_eq_false (by omega)
      clear h
      go_wp2_with fail
      go_ret
      exact ⟨by rw [HU.out, if_neg HH.out]; rfl, rfl⟩

set_option maxHeartbeats 1000000 in
theorem ascii_any (s : ByteArray) (w : World) (hs : s.size ≤ 1000000000) : Calls Tryd.prog 24 #[.string s] w fun e w' => e = .returned (.bool ((ns s).all (fun c => decide (c < 128)))) ∧ w = w' := by
  obtain ⟨R, hR⟩ : ∃ R, R = (ns s).all (fun c => decide (c < 128)) := ⟨_, rfl⟩
  rw [← hR]
  have HR := Lib.hid hR
  clear hR
  go_enter Tryd.func24, Tryd.ntmps24
  go_wp2_with fail
  go_loop [6] (fun i => ∃ k : Nat, k ≤ s.size ∧ i = .int .i64 k ∧ R = ((ns s).drop k).all (fun c => decide (c < 128))) (fun i => s.size - (intOf i).toNat)
  case atStart => exact ⟨0, Nat.zero_le _, rfl, HR.out⟩
  case round =>
    obtain ⟨k, hk, rfl, hall⟩ := hrel
    have HA := Lib.hid hall
    clear hall
    by_cases hlt : k < s.size
    · have e0 := ns_drop s k hlt
      obtain ⟨x, hx⟩ : ∃ x : Nat, (s[k]'hlt).toNat = x := ⟨_, rfl⟩
      rw [hx] at e0
      have HS := Lib.hid (show R = (decide (x < 128) && ((ns s).drop (k + 1)).all (fun c => decide (c < 128))) by rw [HA.out, e0, List.all_cons])
      clear e0
      by_cases h : x < 128
      · have b1 : decide ((128 : Int) ≤ (x : Int)) = false := decide_eq_false (by omega)
        have HH := Lib.hid h
        clear h
        go_wp2_with fail
        go_round
        case rel => exact ⟨k + 1, by omega, by go_num, by rw [HS.out, decide_eq_true HH.out]; rfl⟩
        case measure => simp [intOf]; omega
      · have b1 : decide ((128 : Int) ≤ (x : Int)) = true := decide_eq_true (by omega)
        have HH := Lib.hid h
        clear h
        go_wp2_with fail
        go_ret
        exact ⟨ret_bool (by rw [HS.out, decide_eq_false HH.out]; rfl), rfl⟩
    · obtain rfl : k = s.size := by omega
      go_wp2_with fail
      go_ret
      exact ⟨ret_bool (by rw [HA.out, ns_end s _ (Nat.le_refl _)]; rfl), rfl⟩

theorem truth_yes {s : ByteArray} {L : List UInt8} (h : (s.toList == L) = true) (hL : (Lib.parseBool L).isSome = true) : true = (Lib.parseBool s.data.toList).isSome := by
  rw [Lib.toList_data, beq_iff_eq] at h
  rw [h, hL]
set_option maxHeartbeats 4000000 in
theorem truth_any (s : ByteArray) (w : World) : Calls Tryd.prog 14 #[.string s] w fun e w' => e = .returned (.bool (Lib.parseBool s.data.toList).isSome) ∧ Below w.heap.size w w' := by
  go_enter Tryd.func14, Tryd.ntmps14
  go_wp2_with fail
  refine wp_loop_rounds 13 ?_
  iterate 12 (
    rw [rounds_succ]
    go_wp2_with fail
    · go_ret
      rename_i h
      exact ⟨ret_bool (truth_yes h (by rw [Lib.parseBool_bytes]; decide)), (Below.refl _ _).alloc (Nat.le_refl _) _⟩)
  rw [rounds_succ]
  go_wp2_with fail
  go_ret
  refine ⟨ret_bool ?_, (Below.refl _ _).alloc (Nat.le_refl _) _⟩
  rw [Lib.parseBool_bytes, ← Lib.toList_data]
  simp only [*]
  rfl
end Go.Proofs.YtiebedcldbmlhaaDoor
