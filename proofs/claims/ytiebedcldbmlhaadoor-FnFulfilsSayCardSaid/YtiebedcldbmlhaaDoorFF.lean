/-
  Shift, shouldRoundUp, RoundedInteger. Conditions: at least one digit, the first one not zero, at most 800; the table of digits.
-/
import Derived.Test.YtiebedcldbmlhaaDoorFE
namespace Go.Proofs.YtiebedcldbmlhaaDoor.Fl
open Go.RowKit
set_option linter.unusedVariables false

/-- The table of digits. -/
def Cheats (w : World) (b : Nat) : Prop := ∃ o cap, ∀ k, 1 ≤ k → k ≤ 60 → ∃ dl m ct, Cheat w k dl m b o cap ct
theorem Cheats.upd {w w' : World} {b c : Nat} (h : Cheats w b) (hu : Upd c w w') (hb : b ≠ c) (hg : 12 ≠ c) : Cheats w' b := by
  obtain ⟨o, cap, h⟩ := h
  refine ⟨o, cap, fun k h1 h2 => ?_⟩
  obtain ⟨dl, m, ct, hc⟩ := h k h1 h2
  exact ⟨dl, m, ct, hu.cell hg hc.g, hu.cell hb hc.c0, hu.cell hb hc.c1, hc.k1, hc.k60, hc.d1, hc.dlo, hc.dup, hc.sum, hc.size, hc.dig⟩

/-- Behind a shift. -/
def Post (c : Nat) (s : St) (T : TypeId) (w w' : World) : Prop := Upd c w w' ∧ DecS w' c s T
theorem DecS.ok {w : World} {c : Nat} {s : St} {T : TypeId} (h : DecS w c s T) : Ok s := by
  obtain ⟨cs, h⟩ := h
  exact ⟨h.lead, h.le⟩

set_option maxHeartbeats 1000000 in
set_option maxRecDepth 100000 in
theorem shift_l (c k b : Nat) (s : St) (T : TypeId) (w : World) (h : DecS w c s T) (hc : Cheats w b) (hk1 : 1 ≤ k) (hk : k ≤ 60) (hdp : -10000000 ≤ s.dp ∧ s.dp ≤ 10000000) :
    Calls Tryd.prog 72 #[.pointer (some ⟨c, 0, none⟩), .int .i64 k] w fun e w' => e = .returned (.tuple #[]) ∧ Post c (shl s k) T w w' := by
  obtain ⟨D, nd, dp, tr⟩ := s
  obtain ⟨cs, h⟩ := h
  simp only at h hdp
  obtain ⟨o, cap, hc⟩ := hc
  obtain ⟨dl, m, ct, hc⟩ := hc k hk1 hk
  have hcall := lshift_any c D nd k dl m b o cap ct dp tr cs T w h hc hdp _ rfl
  have hlead := left_len h.lead hc.d1 hc.dlo hc.dup hc.sum
  obtain ⟨L, hL⟩ : ∃ L, L = (if D * 10 ^ m < 5 ^ k * 10 ^ nd then nd + dl - 1 else nd + dl) := ⟨_, rfl⟩
  rw [← hL] at hcall hlead
  have hst : shl ⟨D, nd, dp, tr⟩ k = cut (D * 2 ^ k) L (dp + L - nd) tr := by unfold shl; rw [nlen_eq hlead]
  rw [hst]
  have HC := Lib.hid hcall
  have c8 := obj_cell (i := 800) h.obj h.cnd
  have hnd1 := h.lead.one
  have hnz : ((nd : Int) == 0) = false := by simp; omega
  have hkp : (0 : Int) < (k : Int) := by omega
  have hk60 : (k : Int) ≤ 60 := by omega
  clear hcall hlead hL hc hst
  go_enter Tryd.func72, Tryd.ntmps72
  go_wp2_with fail
  go_loopw [1] (fun kk wx => kk = .int .i64 (k : Int) ∧ wx = w) (fun kk wx => 0)
  case atStart => exact ⟨rfl, rfl⟩
  case round =>
  obtain ⟨rfl, rfl⟩ := hrel
  go_wp2_with fail
  refine HC.out.mono ?_
  rintro e2 w2 ⟨rfl, hu, hd⟩
  have HR := Lib.hid (show Post c (cut (D * 2 ^ k) L (dp + L - nd) tr) T wr w2 from ⟨hu, hd⟩)
  clear hu hd HC
  go_wp2_with fail
  go_end0
  exact ⟨rfl, HR.out⟩

set_option maxHeartbeats 1000000 in
set_option maxRecDepth 100000 in
theorem shift_r (c k : Nat) (s : St) (T : TypeId) (w : World) (h : DecS w c s T) (hk1 : 1 ≤ k) (hk : k ≤ 1000000) (hdp : -5000000 ≤ s.dp ∧ s.dp ≤ 5000000) :
    Calls Tryd.prog 72 #[.pointer (some ⟨c, 0, none⟩), .int .i64 (-(k : Int))] w fun e w' => e = .returned (.tuple #[]) ∧ Post c (shrN s k) T w w' := by
  obtain ⟨cs, hd⟩ := id h
  have H := Lib.hid h
  have c8 := obj_cell (i := 800) hd.obj hd.cnd
  have hnd1 := hd.lead.one
  obtain ⟨nd, hnd⟩ : ∃ nd, nd = s.nd := ⟨_, rfl⟩
  rw [← hnd] at c8 hnd1
  have hnz : ((nd : Int) == 0) = false := by simp; omega
  have hkp : (0 : Int) < (k : Int) := by omega
  have hkn : decide (0 < k) = true := decide_eq_true (by omega)
  obtain ⟨z, hz⟩ : ∃ z, z = shrN s k := ⟨_, rfl⟩
  rw [← hz]
  have HZ := Lib.hid hz
  clear h hd hnd hz
  go_enter Tryd.func72, Tryd.ntmps72
  go_wp2_with fail
  go_loopw [1] (fun kk wx => ∃ (k' : Nat) (s' : St), kk = .int .i64 (-(k' : Int)) ∧ 1 ≤ k' ∧ k' ≤ k ∧ shrN s' k' = z ∧ s.dp - (k - k' : Nat) ≤ s'.dp ∧ s'.dp ≤ s.dp ∧ Post c s' T w wx) (fun kk wx => (-intOf kk).toNat)
  case atStart => exact ⟨k, s, rfl, hk1, Nat.le_refl _, HZ.out.symm, by omega, Int.le_refl _, Upd.refl _ _, H.out⟩
  case round =>
    obtain ⟨k', s', rfl, hk1', hkk, hsz, hd1, hd2, hu, hd⟩ := hrel
    have HU := Lib.hid hu
    have HSZ := Lib.hid hsz
    have hok := hd.ok
    have HOK := Lib.hid hok
    obtain ⟨cs', hd⟩ := hd
    have hst := hd
    obtain ⟨D', nd', dp', tr'⟩ := s'
    simp only at hd hd1 hd2 hst
    by_cases h60 : 60 < k'
    · have hcall := Lib.hid (rshift_any c D' nd' 60 dp' tr' cs' T wr hd (by decide) (by decide) (by omega))
      obtain ⟨m, hm⟩ : ∃ m : Nat, m = k' - 60 := ⟨_, rfl⟩
      have HM := Lib.hid hm
      have e1 : -(k' : Int) + 60 = -(m : Int) := by omega
      clear hd hu hst hsz hok hm
      go_wp2_with fail
      refine hcall.out.mono ?_
      rintro e2 w2 ⟨rfl, hu2, hd2'⟩
      have HP := Lib.hid (show Post c (shr ⟨D', nd', dp', tr'⟩ 60) T w w2 from ⟨HU.out.trans hu2, hd2'⟩)
      clear hu2 hd2'
      go_wp2_with fail
      go_roundw
      case rel =>
        have hdp := shr_dp HOK.out (k := 60) (d := 0) (by decide)
        simp only at hdp
        have hm := HM.out
        exact ⟨m, shr ⟨D', nd', dp', tr'⟩ 60, rfl, by omega, by omega, by rw [← HSZ.out, shrN_gt (n := k') (by omega), hm], by omega, by omega, HP.out⟩
      case measure => have hm := HM.out; simp [intOf]; omega
    · have hcall := Lib.hid (rshift_any c D' nd' k' dp' tr' cs' T wr hd hk1' (by omega) (by omega))
      have HSZ2 := Lib.hid ((shrN_le (s := ⟨D', nd', dp', tr'⟩) (n := k') (by omega)).symm.trans HSZ.out)
      clear hd hu hst hsz hok
      go_wp2_with fail
      refine hcall.out.mono ?_
      rintro e2 w2 ⟨rfl, hu2, hd2'⟩
      have HP := Lib.hid (show Post c z T w w2 from ⟨HU.out.trans hu2, by rw [← HSZ2.out]; exact hd2'⟩)
      clear hu2 hd2'
      go_wp2_with fail
      go_end0
      exact ⟨rfl, HP.out⟩
end Go.Proofs.YtiebedcldbmlhaaDoor.Fl
