/-
  Joined: Shift, shouldRoundUp, RoundedInteger; shouldRoundUp and RoundedInteger; A scope whose gotos lead to labels further on: the run goes on behind the label.
  Conditions: each law's own.
-/
import Derived.Test.YtiebedcldbmlhaaGreatDoorK04
import Derived.WalkMore
namespace Go.Proofs.YtiebedcldbmlhaaGreatDoor.Fl
open Go.RowKit
set_option linter.unusedVariables false

/-- The table of digits. -/
def Cheats (w : World) (b : Nat) : Prop := ∃ o cap, ∀ k, 1 ≤ k → k ≤ 60 → ∃ dl m ct, Cheat w k dl m b o cap ct
theorem Cheats.upd {w w' : World} {b c : Nat} (h : Cheats w b) (hu : Upd c w w') (hb : b ≠ c) (hg : 13 ≠ c) : Cheats w' b := by
  obtain ⟨o, cap, h⟩ := h
  refine ⟨o, cap, fun k h1 h2 => ?_⟩
  obtain ⟨dl, m, ct, hc⟩ := h k h1 h2
  exact ⟨dl, m, ct, hu.cell hg hc.g, hu.cell hb hc.c0, hu.cell hb hc.c1, hc.k1, hc.k60, hc.d1, hc.dlo, hc.dup, hc.sum, hc.size, hc.dig⟩

/-- Behind a shift. -/
def Post (c : Nat) (s : St) (T : TypeId) (w w' : World) : Prop := Upd c w w' ∧ DecS w' c s T
theorem DecS.ok {w : World} {c : Nat} {s : St} {T : TypeId} (h : DecS w c s T) : Ok s := by
  obtain ⟨cs, h⟩ := h
  exact ⟨h.lead, h.le⟩

set_option maxHeartbeats 1000000 in
set_option maxRecDepth 100000 in
theorem shift_l (c k b : Nat) (s : St) (T : TypeId) (w : World) (h : DecS w c s T) (hc : Cheats w b) (hk1 : 1 ≤ k) (hk : k ≤ 60) (hdp : -10000000 ≤ s.dp ∧ s.dp ≤ 10000000) :
    Calls Tryz.prog 139 #[.pointer (some ⟨c, 0, none⟩), .int .i64 k] w fun e w' => e = .returned (.tuple #[]) ∧ Post c (shl s k) T w w' := by
  obtain ⟨D, nd, dp, tr⟩ := s
  obtain ⟨cs, h⟩ := h
  simp only at h hdp
  obtain ⟨o, cap, hc⟩ := hc
  obtain ⟨dl, m, ct, hc⟩ := hc k hk1 hk
  have hcall := lshift_any c D nd k dl m b o cap ct dp tr cs T w h hc hdp _ rfl
  have hlead := left_len h.lead hc.d1 hc.dlo hc.dup hc.sum
  obtain ⟨L, hL⟩ : ∃ L, L = (if D * 10 ^ m < 5 ^ k * 10 ^ nd then nd + dl - 1 else nd + dl) := ⟨_, rfl⟩
  rw [← hL] at hcall hlead
  have hst : shl ⟨D, nd, dp, tr⟩ k = cut (D * 2 ^ k) L (dp + L - nd) tr := by unfold shl; rw [nlen_eq hlead]
  rw [hst]
  have HC := Lib.hid hcall
  have c8 := obj_cell (i := 800) h.obj h.cnd
  have hnd1 := h.lead.one
  have hnz : ((nd : Int) == 0) = false := by simp; omega
  have hkp : (0 : Int) < (k : Int) := by omega
  have hk60 : (k : Int) ≤ 60 := by omega
  clear hcall hlead hL hc hst
  go_enter Tryz.func139, Tryz.ntmps139
  go_wp2_with fail
  go_loopw [1] (fun kk wx => kk = .int .i64 (k : Int) ∧ wx = w) (fun kk wx => 0)
  case atStart => exact ⟨rfl, rfl⟩
  case round =>
  obtain ⟨rfl, rfl⟩ := hrel
  go_wp2_with fail
  refine HC.out.mono ?_
  rintro e2 w2 ⟨rfl, hu, hd⟩
  have HR := Lib.hid (show Post c (cut (D * 2 ^ k) L (dp + L - nd) tr) T wr w2 from ⟨hu, hd⟩)
  clear hu hd HC
  go_wp2_with fail
  go_end0
  exact ⟨rfl, HR.out⟩

set_option maxHeartbeats 1000000 in
set_option maxRecDepth 100000 in
theorem shift_r (c k : Nat) (s : St) (T : TypeId) (w : World) (h : DecS w c s T) (hk1 : 1 ≤ k) (hk : k ≤ 1000000) (hdp : -5000000 ≤ s.dp ∧ s.dp ≤ 5000000) :
    Calls Tryz.prog 139 #[.pointer (some ⟨c, 0, none⟩), .int .i64 (-(k : Int))] w fun e w' => e = .returned (.tuple #[]) ∧ Post c (shrN s k) T w w' := by
  obtain ⟨cs, hd⟩ := id h
  have H := Lib.hid h
  have c8 := obj_cell (i := 800) hd.obj hd.cnd
  have hnd1 := hd.lead.one
  obtain ⟨nd, hnd⟩ : ∃ nd, nd = s.nd := ⟨_, rfl⟩
  rw [← hnd] at c8 hnd1
  have hnz : ((nd : Int) == 0) = false := by simp; omega
  have hkp : (0 : Int) < (k : Int) := by omega
  have hkn : decide (0 < k) = true := decide_eq_true (by omega)
  obtain ⟨z, hz⟩ : ∃ z, z = shrN s k := ⟨_, rfl⟩
  rw [← hz]
  have HZ := Lib.hid hz
  clear h hd hnd hz
  go_enter Tryz.func139, Tryz.ntmps139
  go_wp2_with fail
  go_loopw [1] (fun kk wx => ∃ (k' : Nat) (s' : St), kk = .int .i64 (-(k' : Int)) ∧ 1 ≤ k' ∧ k' ≤ k ∧ shrN s' k' = z ∧ s.dp - (k - k' : Nat) ≤ s'.dp ∧ s'.dp ≤ s.dp ∧ Post c s' T w wx) (fun kk wx => (-intOf kk).toNat)
  case atStart => exact ⟨k, s, rfl, hk1, Nat.le_refl _, HZ.out.symm, by omega, Int.le_refl _, Upd.refl _ _, H.out⟩
  case round =>
    obtain ⟨k', s', rfl, hk1', hkk, hsz, hd1, hd2, hu, hd⟩ := hrel
    have HU := Lib.hid hu
    have HSZ := Lib.hid hsz
    have hok := hd.ok
    have HOK := Lib.hid hok
    obtain ⟨cs', hd⟩ := hd
    have hst := hd
    obtain ⟨D', nd', dp', tr'⟩ := s'
    simp only at hd hd1 hd2 hst
    by_cases h60 : 60 < k'
    · have hcall := Lib.hid (rshift_any c D' nd' 60 dp' tr' cs' T wr hd (by decide) (by decide) (by omega))
      obtain ⟨m, hm⟩ : ∃ m : Nat, m = k' - 60 := ⟨_, rfl⟩
      have HM := Lib.hid hm
      have e1 : -(k' : Int) + 60 = -(m : Int) := by omega
      clear hd hu hst hsz hok hm
      go_wp2_with fail
      refine hcall.out.mono ?_
      rintro e2 w2 ⟨rfl, hu2, hd2'⟩
      have HP := Lib.hid (show Post c (shr ⟨D', nd', dp', tr'⟩ 60) T w w2 from ⟨HU.out.trans hu2, hd2'⟩)
      clear hu2 hd2'
      go_wp2_with fail
      go_roundw
      case rel =>
        have hdp := shr_dp HOK.out (k := 60) (d := 0) (by decide)
        simp only at hdp
        have hm := HM.out
        exact ⟨m, shr ⟨D', nd', dp', tr'⟩ 60, rfl, by omega, by omega, by rw [← HSZ.out, shrN_gt (n := k') (by omega), hm], by omega, by omega, HP.out⟩
      case measure => have hm := HM.out; simp [intOf]; omega
    · have hcall := Lib.hid (rshift_any c D' nd' k' dp' tr' cs' T wr hd hk1' (by omega) (by omega))
      have HSZ2 := Lib.hid ((shrN_le (s := ⟨D', nd', dp', tr'⟩) (n := k') (by omega)).symm.trans HSZ.out)
      clear hd hu hst hsz hok
      go_wp2_with fail
      refine hcall.out.mono ?_
      rintro e2 w2 ⟨rfl, hu2, hd2'⟩
      have HP := Lib.hid (show Post c z T w w2 from ⟨HU.out.trans hu2, by rw [← HSZ2.out]; exact hd2'⟩)
      clear hu2 hd2'
      go_wp2_with fail
      go_end0
      exact ⟨rfl, HP.out⟩
end Go.Proofs.YtiebedcldbmlhaaGreatDoor.Fl
namespace Go.Proofs.YtiebedcldbmlhaaGreatDoor.Fl
open Go.RowKit
set_option linter.unusedVariables false

set_option maxHeartbeats 1000000 in
set_option maxRecDepth 100000 in
theorem rup_any (c : Nat) (x : Int) (s : St) (T : TypeId) (w : World) (h : DecS w c s T) (hx : -10000000 ≤ x ∧ x ≤ 10000000) :
    Calls Tryz.prog 148 #[.pointer (some ⟨c, 0, none⟩), .int .i64 x] w fun e w' => e = .returned (.bool (rup s x)) ∧ w' = w := by
  obtain ⟨z, hz⟩ : ∃ z, z = rup s x := ⟨_, rfl⟩
  rw [← hz]
  obtain ⟨D, nd, dp, tr⟩ := s
  obtain ⟨cs, h⟩ := h
  simp only at h
  have c8 := obj_cell (i := 800) h.obj h.cnd
  have c3 := obj_cell (i := 803) h.obj h.ctr
  have hle := h.le
  by_cases hx0 : x < 0
  · have hd0 : decide (x < 0) = true := decide_eq_true hx0
    have HZ := Lib.hid (show z = false by rw [hz]; unfold rup; rw [if_pos hx0])
    clear h hz
    go_enter Tryz.func148, Tryz.ntmps148
    go_wp2_with fail
    go_ret
    exact ⟨ret_bool HZ.out.symm, rfl⟩
  obtain ⟨i, rfl⟩ := Int.eq_ofNat_of_zero_le (show 0 ≤ x by omega)
  have hz2 : z = rupAt ⟨D, nd, dp, tr⟩ i := by rw [hz]; unfold rup; rw [if_neg hx0, Int.toNat_natCast]
  unfold rupAt at hz2
  simp only at hz2
  clear hz
  have hd0 : decide ((i : Int) < 0) = false := decide_eq_false hx0
  by_cases hin : i < nd
  · rw [if_neg (by omega)] at hz2
    have hd1 : decide ((nd : Int) ≤ (i : Int)) = false := decide_eq_false (by omega)
    have ci := obj_cell (i := i) h.obj (h.dig i hin)
    obtain ⟨d, hd⟩ : ∃ d, d = dgt D (nd - 1 - i) := ⟨_, rfl⟩
    rw [← hd] at ci hz2
    have hd9 : d < 10 := by rw [hd]; exact dgt_lt _ _
    obtain ⟨v, hv⟩ : ∃ v : Nat, v = 48 + d := ⟨_, rfl⟩
    rw [← hv] at ci
    have h8i : (i : Int) < 800 := by omega
    have hv9 : v ≤ 57 := by omega
    have hv8 : 48 ≤ v := by omega
    by_cases h53 : v = 53
    · have hv53 : ((v : Int) == 53) = true := by simp; omega
      by_cases hl : i + 1 = nd
      · rw [if_pos ⟨by omega, hl⟩] at hz2
        have hl1 : (((i : Int) + 1) == (nd : Int)) = true := by simp; omega
        cases tr with
        | true =>
          have HZ := Lib.hid (show z = true by rw [hz2, Bool.true_or])
          clear h hv hz2 hd
          go_enter Tryz.func148, Tryz.ntmps148
          go_wp2_with fail
          go_ret
          exact ⟨ret_bool HZ.out.symm, rfl⟩
        | false =>
          by_cases hi0 : i = 0
          · subst hi0
            have HZ := Lib.hid (show z = false by rw [hz2]; rfl)
            clear h hv hz2 hd
            go_enter Tryz.func148, Tryz.ntmps148
            go_wp2_with fail
            go_ret
            exact ⟨ret_bool HZ.out.symm, rfl⟩
          · obtain ⟨j, rfl⟩ : ∃ j, i = j + 1 := ⟨i - 1, by omega⟩
            have cj := obj_cell (i := j) h.obj (h.dig j (by omega))
            rw [show j + 1 - 1 = j by omega] at hz2
            obtain ⟨q, hq⟩ : ∃ q, q = dgt D (nd - 1 - j) := ⟨_, rfl⟩
            rw [← hq] at cj hz2
            have hq9 : q < 10 := by rw [hq]; exact dgt_lt _ _
            obtain ⟨u, hu⟩ : ∃ u : Nat, u = 48 + q := ⟨_, rfl⟩
            rw [← hu] at cj
            have hu9 : u ≤ 57 := by omega
            have hu8 : 48 ≤ u := by omega
            have hpos : decide ((0 : Int) < ((j + 1 : Nat) : Int)) = true := decide_eq_true (by omega)
            have h8j : (j : Int) < 800 := by omega
            have HZ := Lib.hid (show z = decide (q % 2 ≠ 0) by rw [hz2]; simp)
            have HU := Lib.hid hu
            clear h hv hu hz2 hq hd
            go_enter Tryz.func148, Tryz.ntmps148
            go_wp2_with fail
            go_ret
            refine ⟨ret_bool ?_, rfl⟩
            rw [HZ.out]
            have := HU.out
            rw [show ((u : Int) - 48) % 2 = ((q % 2 : Nat) : Int) by omega]
            by_cases h2 : q % 2 = 0
            · rw [h2]; rfl
            · rw [show q % 2 = 1 by omega]; rfl
      · rw [if_neg (fun hh => hl hh.2)] at hz2
        have hl1 : (((i : Int) + 1) == (nd : Int)) = false := by simp; omega
        have HZ := Lib.hid (show z = true by rw [hz2]; exact decide_eq_true (by omega))
        clear h hv hz2 hd
        go_enter Tryz.func148, Tryz.ntmps148
        go_wp2_with fail
        go_ret
        refine ⟨ret_bool ?_, rfl⟩
        first | exact HZ.out.symm | done | exact decide_eq_true (by omega) | (simp; done)
    · rw [if_neg (fun hh => h53 (by omega))] at hz2
      have hv53 : ((v : Int) == 53) = false := by simp; omega
      have HZ := Lib.hid (show z = decide (5 ≤ d) from hz2)
      have HV := Lib.hid hv
      clear h hv hz2 hd
      go_enter Tryz.func148, Tryz.ntmps148
      go_wp2_with fail
      go_ret
      refine ⟨ret_bool ?_, rfl⟩
      rw [HZ.out]
      have := HV.out
      exact decide_eq_decide.2 (by omega)
  · rw [if_pos (by omega)] at hz2
    have hd1 : decide ((nd : Int) ≤ (i : Int)) = true := decide_eq_true (by omega)
    have HZ := Lib.hid hz2
    clear h hz2
    go_enter Tryz.func148, Tryz.ntmps148
    go_wp2_with fail
    go_ret
    exact ⟨ret_bool HZ.out.symm, rfl⟩

theorem pre_up {D nd r : Nat} (h : Lead D nd) : pre D nd r < 10 ^ r := by
  unfold pre
  split
  · rename_i h2
    rw [Nat.div_lt_iff_lt_mul (p10 _), ← Nat.pow_add, show r + (nd - r) = nd by omega]
    exact h.up
  · rename_i h2
    have := (Nat.mul_lt_mul_right (p10 (r - nd))).2 h.up
    rw [← Nat.pow_add, show nd + (r - nd) = r by omega] at this
    exact this

set_option maxHeartbeats 1000000 in
set_option maxRecDepth 100000 in
theorem rint_any (c : Nat) (s : St) (T : TypeId) (w : World) (h : DecS w c s T) (hx : -10000000 ≤ s.dp ∧ s.dp ≤ 19) :
    Calls Tryz.prog 140 #[.pointer (some ⟨c, 0, none⟩)] w fun e w' => e = .returned (.int .u64 (rint s : Nat)) ∧ w' = w := by
  have hr := rup_any c s.dp s T
  obtain ⟨z, hz⟩ : ∃ z, z = rup s s.dp := ⟨_, rfl⟩
  rw [← hz] at hr
  have hval : rint s = pre s.D s.nd s.dp.toNat + (if z then 1 else 0) := by rw [hz]; rfl
  obtain ⟨R, hR⟩ : ∃ R, R = rint s := ⟨_, rfl⟩
  rw [← hR] at hval ⊢
  have HS := Lib.hid h
  obtain ⟨D, nd, dp, tr⟩ := s
  obtain ⟨cs, h⟩ := h
  simp only at h hr hval hx
  have HR := Lib.hid hr
  have HV := Lib.hid hval
  have c8 := obj_cell (i := 800) h.obj h.cnd
  have c9 := obj_cell (i := 801) h.obj h.cdp
  have hle := h.le
  have H := Lib.hid h
  have hx1 := hx.1
  have hx2 := hx.2
  have hx3 : dp ≤ 20 := by omega
  clear h hr hval hx hz hR
  have hd20 : decide ((20 : Int) < dp) = false := decide_eq_false (by omega)
  obtain ⟨m, hm⟩ : ∃ m, m = dp.toNat := ⟨_, rfl⟩
  have hm19 : m ≤ 19 := by omega
  have HM := Lib.hid hm
  have hmd : ∀ i : Nat, (i : Int) < dp ↔ i < m := by intro i; omega
  have HMD := Lib.hid hmd
  clear hm hmd
  go_enter Tryz.func140, Tryz.ntmps140
  go_wp2_with fail
  go_loop [3, 4] (fun i n => ∃ k a : Nat, i = .int .i64 k ∧ n = .int .u64 a ∧ k ≤ nd ∧ k ≤ m ∧ a = pre D nd k) (fun i n => nd - (intOf i).toNat)
  case atStart => exact ⟨0, 0, rfl, rfl, Nat.zero_le _, Nat.zero_le _, (pre_zero H.out.lead.up).symm⟩
  case round =>
    obtain ⟨k, a, rfl, rfl, hk, hkm, ha⟩ := hrel
    have HA := Lib.hid ha
    have hap : a < 10 ^ k := by rw [ha]; exact pre_up H.out.lead
    clear ha
    have ha19 : a < 10 ^ 19 := Nat.lt_of_lt_of_le hap (Nat.pow_le_pow_right (by decide) (by omega))
    have hp19 : (10 : Nat) ^ 19 = 10000000000000000000 := by decide
    have ha19' : a < 10000000000000000000 := by omega
    by_cases h1 : k < m
    · have hlt : decide ((k : Int) < dp) = true := decide_eq_true ((HMD.out k).2 h1)
      have hlt' : (k : Int) < dp := (HMD.out k).2 h1
      by_cases h2 : k < nd
      · have ck := obj_cell (i := k) H.out.obj (H.out.dig k h2)
        obtain ⟨d, hd⟩ : ∃ d, d = dgt D (nd - 1 - k) := ⟨_, rfl⟩
        rw [← hd] at ck
        have hd9 : d < 10 := by rw [hd]; exact dgt_lt _ _
        obtain ⟨v, hv⟩ : ∃ v : Nat, v = 48 + d := ⟨_, rfl⟩
        rw [← hv] at ck
        have hv9 : v ≤ 57 := by omega
        have hv8 : 48 ≤ v := by omega
        have hk8 : (k : Int) < 800 := by omega
        have ha18 : a < 1000000000000000000 := by
          have h3 : 10 ^ k ≤ 10 ^ 18 := Nat.pow_le_pow_right (by decide) (by omega)
          have h4 : (10 : Nat) ^ 18 = 1000000000000000000 := by decide
          omega
        obtain ⟨t, ht⟩ : ∃ t, t = a * 10 := ⟨_, rfl⟩
        obtain ⟨u, hu⟩ : ∃ u, u = t + d := ⟨_, rfl⟩
        have e1 : IntKind.u64.wrap ((a : Int) * 10) = (t : Int) := by rw [IntWalk.u64_in _ (by omega)]; omega
        have e0 : IntKind.u8.wrap ((v : Int) - 48) = (d : Int) := by rw [IntWalk.u8_in _ (by omega)]; omega
        have e0' : (v : Int) - 48 = (d : Int) := by omega
        have e2 : IntKind.u64.wrap ((t : Int) + (d : Int)) = (u : Int) := by rw [IntWalk.u64_in _ (by omega)]; omega
        have HU := Lib.hid (show u = pre D nd (k + 1) by rw [pre_lt h2, ← HA.out, ← hd]; omega)
        clear hd hv ht hu hap ha19 hp19
        go_wp2_with fail
        go_round
        case rel => exact ⟨k + 1, u, by go_num, rfl, by omega, by omega, HU.out⟩
        case measure => simp [intOf]; omega
      · obtain rfl : k = nd := by omega
        clear hap ha19 hp19
        go_wp2_with fail
        go_loop [3, 4] (fun i n => ∃ k' a : Nat, i = .int .i64 k' ∧ n = .int .u64 a ∧ k ≤ k' ∧ k' ≤ m ∧ a = pre D k k') (fun i n => m - (intOf i).toNat)
        case atStart => exact ⟨k, a, rfl, rfl, Nat.le_refl _, hkm, HA.out⟩
        case round =>
          clear HA ha19' hlt hlt'
          obtain ⟨k', a, rfl, rfl, hkk, hkm', ha⟩ := hrel
          have HA := Lib.hid ha
          have hap : a < 10 ^ k' := by rw [ha]; exact pre_up H.out.lead
          clear ha
          by_cases h3 : k' < m
          · have hlt : (k' : Int) < dp := (HMD.out k').2 h3
            have ha18 : a < 1000000000000000000 := by
              have h3 : 10 ^ k' ≤ 10 ^ 18 := Nat.pow_le_pow_right (by decide) (by omega)
              have h4 : (10 : Nat) ^ 18 = 1000000000000000000 := by decide
              omega
            obtain ⟨t, ht⟩ : ∃ t, t = a * 10 := ⟨_, rfl⟩
            have e1 : IntKind.u64.wrap ((a : Int) * 10) = (t : Int) := by rw [IntWalk.u64_in _ (by omega)]; omega
            have HU := Lib.hid (show t = pre D k (k' + 1) by rw [pre_ge hkk, ← HA.out]; omega)
            clear ht hap
            go_wp2_with fail
            go_round
            case rel => exact ⟨k' + 1, t, by go_num, rfl, by omega, by omega, HU.out⟩
            case measure => simp [intOf]; omega
          · have hlt : ¬ (k' : Int) < dp := fun hh => h3 ((HMD.out k').1 hh)
            have hkm2 : k' = m := by omega
            have HK := Lib.hid hkm2
            have ha19 : a < 10000000000000000000 := by
              have h3 : 10 ^ k' ≤ 10 ^ 19 := Nat.pow_le_pow_right (by decide) (by omega)
              have h4 : (10 : Nat) ^ 19 = 10000000000000000000 := by decide
              omega
            have HP := Lib.hid (HR.out w HS.out (by omega))
            clear hkm2 hap
            go_wp2_with fail
            refine HP.out.mono ?_
            rintro e2 w2 ⟨rfl, rfl⟩
            cases z with
            | true =>
              go_wp2_with fail
              go_ret
              exact ⟨ret_int (by rw [HV.out, ← HM.out, ← HK.out, ← HA.out]; simp), rfl⟩
            | false =>
              go_wp2_with fail
              go_ret
              exact ⟨ret_int (by rw [HV.out, ← HM.out, ← HK.out, ← HA.out]; simp), rfl⟩
    · have hlt : ¬ (k : Int) < dp := fun hh => h1 ((HMD.out k).1 hh)
      have hkm2 : k = m := by omega
      have HK := Lib.hid hkm2
      have HP := Lib.hid (HR.out w HS.out (by omega))
      clear hkm2 hap ha19 hp19
      go_wp2_with fail
      refine wp_loop_rounds 1 ?_
      rw [rounds_succ]
      go_wp2_with fail
      refine HP.out.mono ?_
      rintro e2 w2 ⟨rfl, rfl⟩
      cases z with
      | true =>
        go_wp2_with fail
        go_ret
        exact ⟨ret_int (by rw [HV.out, ← HM.out, ← HK.out, ← HA.out]; simp), rfl⟩
      | false =>
        go_wp2_with fail
        go_ret
        exact ⟨ret_int (by rw [HV.out, ← HM.out, ← HK.out, ← HA.out]; simp), rfl⟩
end Go.Proofs.YtiebedcldbmlhaaGreatDoor.Fl
namespace Go.Proofs.YtiebedcldbmlhaaGreatDoor.Fl
open Go.RowKit
set_option linter.unusedVariables false

/-- Where a goto leads on: the code behind its label, as often as n times. -/
def Follow (P : Program) (c : Code) : Nat → (Exit → Act → World → Prop) → Exit → Act → World → Prop
  | 0, Q => Exit.noGoto Q
  | n + 1, Q => fun e a w => match e with
    | .goto l => ∃ r, findLabel c l = some r ∧ r.wp P (Follow P c n Q) a w
    | e => Q e a w
theorem follow_key {P : Program} {c : Code} {Q : Exit → Act → World → Prop} {b : Frame} {k : List Item} {cs : List Frame} : ∀ (n : Nat) (e : Exit) (a₁ : Act) (w₁ : World) (x : Machine),
    Follow P c n Q e a₁ w₁ → Arrives P x b (.inScope c :: k) cs e a₁ w₁ → ∃ e' a' w', Q e' a' w' ∧ Arrives P x b k cs e' a' w' := by
  intro n
  induction n with
  | zero =>
    intro e a₁ w₁ x hq harr
    cases e with
    | normal => exact ⟨.normal, a₁, w₁, hq, Steps.trans harr (.one step_inScope)⟩
    | exit id => exact ⟨.exit id, a₁, w₁, hq, fun k' hk => harr k' (by simp [exitTo, hk])⟩
    | goto l => exact False.elim hq
    | ret => exact ⟨_, a₁, w₁, hq, harr⟩
    | panic ch => exact ⟨_, a₁, w₁, hq, harr⟩
    | outgrown => exact ⟨_, a₁, w₁, hq, harr⟩
  | succ n ih =>
    intro e a₁ w₁ x hq harr
    cases e with
    | normal => exact ⟨.normal, a₁, w₁, hq, Steps.trans harr (.one step_inScope)⟩
    | exit id => exact ⟨.exit id, a₁, w₁, hq, fun k' hk => harr k' (by simp [exitTo, hk])⟩
    | goto l =>
      obtain ⟨r, hf, hr⟩ := hq
      obtain ⟨e₂, a₂, w₂, hq₂, harr₂⟩ := hr b (.inScope c :: k) cs
      exact ih e₂ a₂ w₂ x hq₂ (.of_steps (harr _ (by simp [gotoIn, hf])) harr₂)
    | ret => exact ⟨_, a₁, w₁, hq, harr⟩
    | panic ch => exact ⟨_, a₁, w₁, hq, harr⟩
    | outgrown => exact ⟨_, a₁, w₁, hq, harr⟩
theorem wp_scope_follow {P : Program} {c : Code} {Q : Exit → Act → World → Prop} {a : Act} {w : World} (n : Nat) (h : c.wp P (Follow P c n Q) a w) : (Code.scope c).wp P Q a w := by
  intro b k cs
  obtain ⟨e, a₁, w₁, hq, harr⟩ := h b (.inScope c :: k) cs
  obtain ⟨e', a', w', hq', harr'⟩ := follow_key n e a₁ w₁ _ hq harr
  exact ⟨e', a', w', hq', .of_steps (.one step_scope) harr'⟩
/-- The same, the post behind a name. -/
theorem wp_scope_named {P : Program} {c : Code} {Q : Exit → Act → World → Prop} {a : Act} {w : World} (n : Nat) (h : ∀ R, R = Follow P c n Q → c.wp P R a w) : (Code.scope c).wp P Q a w :=
  wp_scope_follow n (h _ rfl)
theorem follow_goto {P : Program} {c r : Code} {Q R : Exit → Act → World → Prop} {n l : Nat} (hR : R = Follow P c (n + 1) Q) (hf : findLabel c l = some r) {a : Act} {w : World} (h : r.wp P (Follow P c n Q) a w) : R (.goto l) a w := by
  rw [hR]; exact ⟨r, hf, h⟩
theorem follow_ret {P : Program} {c : Code} {Q R : Exit → Act → World → Prop} {n : Nat} (hR : R = Follow P c n Q) {a : Act} {w : World} (h : Q .ret a w) : R .ret a w := by
  rw [hR]
  cases n <;> exact h
/-- The same, the post behind a name. -/
theorem follow_named {P : Program} {c r : Code} {Q R : Exit → Act → World → Prop} {n l : Nat} (hR : R = Follow P c (n + 1) Q) (hf : findLabel c l = some r) {a : Act} {w : World} (h : ∀ R', R' = Follow P c n Q → r.wp P R' a w) : R (.goto l) a w :=
  follow_goto hR hf (h _ rfl)
end Go.Proofs.YtiebedcldbmlhaaGreatDoor.Fl
