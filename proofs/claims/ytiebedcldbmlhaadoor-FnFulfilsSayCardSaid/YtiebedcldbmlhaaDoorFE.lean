/-
  rightShift, walked. Conditions: as in the plain facts.
-/
import Derived.Test.YtiebedcldbmlhaaDoorFD
namespace Go.Proofs.YtiebedcldbmlhaaDoor.Fl
open Go.RowKit
set_option linter.unusedVariables false

/-- What a shift to the right leaves behind. -/
def ShrPost (c D nd k : Nat) (dp : Int) (tr : Bool) (T : TypeId) (w w' : World) : Prop := Upd c w w' ∧ DecS w' c (shr ⟨D, nd, dp, tr⟩ k) T

set_option maxHeartbeats 2000000 in
set_option maxRecDepth 100000 in
theorem rshift_any (c D nd k : Nat) (dp : Int) (tr : Bool) (cs : Array Value) (T : TypeId) (w : World) (h : Dec w c D nd dp tr cs T) (hk1 : 1 ≤ k) (hk60 : k ≤ 60) (hdp : -10000000 ≤ dp ∧ dp ≤ 10000000) :
    Calls Tryd.prog 81 #[.pointer (some ⟨c, 0, none⟩), .int .u64 k] w fun e w' => e = .returned (.tuple #[]) ∧ ShrPost c D nd k dp tr T w w' := by
  have H := Lib.hid h
  have c8 := obj_cell (i := 800) h.obj h.cnd
  have f8 := obj_free (i := 800) h.obj
  have c9 := obj_cell (i := 801) h.obj h.cdp
  have f9 := obj_free (i := 801) h.obj
  have hle := h.le
  have hnd1 := h.lead.one
  obtain ⟨p, hp⟩ : ∃ p, p = 2 ^ k := ⟨_, rfl⟩
  have hp60 : p ≤ 1152921504606846976 := by
    rw [hp]
    have h1 : 2 ^ k ≤ 2 ^ 60 := Nat.pow_le_pow_right (by decide) hk60
    exact h1
  have hp2 : 2 ≤ p := by
    rw [hp]
    have h1 : 2 ^ 1 ≤ 2 ^ k := Nat.pow_le_pow_right (by decide) hk1
    exact h1
  have HP := Lib.hid hp
  clear h hp
  go_enter Tryd.func81, Tryd.ntmps81
  go_upto_block 0 with fail
  go_cut [4, 6, 7] from 12 to 48 (fun r n _ wx => ∃ rr a : Nat, r = .int .i64 rr ∧ n = .int .u64 a ∧ 1 ≤ rr ∧ a = pre D nd rr ∧ p ≤ a ∧ pre D nd (rr - 1) < p ∧ wx = w)
  case first =>
    go_wp2_with fail
    go_loopw [4, 6] (fun r n wx => ∃ rr a : Nat, r = .int .i64 rr ∧ n = .int .u64 a ∧ rr ≤ nd ∧ a = pre D nd rr ∧ (rr = 0 ∨ pre D nd (rr - 1) < p) ∧ wx = w) (fun r n wx => nd - (intOf r).toNat)
    case atStart => exact ⟨0, 0, rfl, rfl, Nat.zero_le _, (pre_zero H.out.lead.up).symm, .inl rfl, rfl⟩
    case round =>
      obtain ⟨rr, a, rfl, rfl, hrr, ha, hpr, rfl⟩ := hrel
      have HA := Lib.hid ha
      have HPR := Lib.hid hpr
      have ha10 : a < 11529215046068469760 := by
        rcases hpr with h1 | h1
        · rw [ha, h1, pre_zero H.out.lead.up]; decide
        · rcases Nat.eq_zero_or_pos rr with h2 | h2
          · rw [ha, h2, pre_zero H.out.lead.up]; decide
          · have h3 := (pre_step (D := D) (nd := nd) (r := rr - 1)).2
            rw [show rr - 1 + 1 = rr by omega] at h3
            omega
      clear ha hpr
      have hdiv : ((a : Int) / (2 : Int) ^ k) = ((a / p : Nat) : Int) := by rw [HP.out]; simp
      obtain ⟨g, hg⟩ : ∃ g, g = a / p := ⟨_, rfl⟩
      rw [← hg] at hdiv
      by_cases hap : a < p
      · have hg0 : g = 0 := by rw [hg]; exact Nat.div_eq_of_lt hap
        subst hg0
        clear hg
        by_cases hr : rr < nd
        · obtain ⟨x, hx⟩ : ∃ x, x = dgt D (nd - 1 - rr) := ⟨_, rfl⟩
          obtain ⟨ch, hch⟩ : ∃ ch, ch = 48 + x := ⟨_, rfl⟩
          have cx := obj_cell (i := rr) H.out.obj (H.out.dig rr hr)
          rw [← hx, ← hch] at cx
          have hx9 : x < 10 := by rw [hx]; exact dgt_lt _ _
          have hch9 : ch ≤ 57 := by omega
          obtain ⟨t, ht⟩ : ∃ t, t = a * 10 := ⟨_, rfl⟩
          obtain ⟨s, hs⟩ : ∃ s, s = t + ch := ⟨_, rfl⟩
          obtain ⟨b, hb⟩ : ∃ b, b = s - 48 := ⟨_, rfl⟩
          have e1 : IntKind.u64.wrap ((a : Int) * 10) = (t : Int) := by rw [IntWalk.u64_in _ (by omega)]; omega
          have e2 : IntKind.u64.wrap ((t : Int) + (ch : Int)) = (s : Int) := by rw [IntWalk.u64_in _ (by omega)]; omega
          have e3 : IntKind.u64.wrap ((s : Int) - 48) = (b : Int) := by rw [IntWalk.u64_in _ (by omega)]; omega
          have h8i : (rr : Int) < 800 := by omega
          have hbp : b = pre D nd (rr + 1) := by rw [pre_lt hr, ← HA.out, ← hx]; omega
          have HB := Lib.hid hbp
          clear ht hs hb hbp hx hch
          go_wp2_with fail
          go_roundw
          case rel => exact ⟨rr + 1, b, by go_num, rfl, by omega, HB.out, .inr (by rw [show rr + 1 - 1 = rr by omega, ← HA.out]; exact hap), trivial⟩
          case measure => simp [intOf]; omega
        · obtain rfl : rr = nd := by omega
          have ha1 : 1 ≤ a := by have := HA.out; rw [pre_all] at this; have := lead_pos H.out.lead; omega
          have ha0 : ((a : Int) == 0) = false := by simp; omega
          go_wp2_with fail
          go_loopw [4, 6] (fun r n wx => ∃ ri a : Nat, r = .int .i64 ri ∧ n = .int .u64 a ∧ rr ≤ ri ∧ ri ≤ 1000 ∧ 1 ≤ a ∧ a = pre D rr ri ∧ pre D rr (ri - 1) < p ∧ wx = wr) (fun r n wx => (11529215046068469760 - intOf n).toNat)
          case atStart =>
            refine ⟨rr, a, rfl, rfl, Nat.le_refl _, by omega, ha1, HA.out, ?_, rfl⟩
            have h3 := (pre_step (D := D) (nd := rr) (r := rr - 1)).1
            rw [show rr - 1 + 1 = rr by omega, ← HA.out] at h3
            omega
          case round =>
            clear HA HPR ha10 hdiv hap ha1 ha0
            obtain ⟨ri, a, rfl, rfl, hri, hri2, ha1, ha, hpr, rfl⟩ := hrel
            have ha10 : a < 11529215046068469760 := by
              have h3 := (pre_step (D := D) (nd := rr) (r := ri - 1)).2
              rw [show ri - 1 + 1 = ri by omega] at h3
              omega
            have hr20 : ri ≤ 20 := pre_r (k := k) H.out.lead (by omega) hk60 (by rw [← HP.out]; exact hpr)
            have HA := Lib.hid ha
            have HPR := Lib.hid hpr
            clear ha hpr
            have hdiv : ((a : Int) / (2 : Int) ^ k) = ((a / p : Nat) : Int) := by rw [HP.out]; simp
            obtain ⟨g, hg⟩ : ∃ g, g = a / p := ⟨_, rfl⟩
            rw [← hg] at hdiv
            by_cases hap : a < p
            · have hg0 : g = 0 := by rw [hg]; exact Nat.div_eq_of_lt hap
              subst hg0
              clear hg
              obtain ⟨t, ht⟩ : ∃ t, t = a * 10 := ⟨_, rfl⟩
              have e1 : IntKind.u64.wrap ((a : Int) * 10) = (t : Int) := by rw [IntWalk.u64_in _ (by omega)]; omega
              have hbp : t = pre D rr (ri + 1) := by rw [pre_ge hri, ← HA.out]; omega
              have HB := Lib.hid hbp
              have hat : a < t := by omega
              clear ht hbp
              go_wp2_with fail
              go_roundw
              case rel => exact ⟨ri + 1, t, by go_num, rfl, by omega, by omega, by omega, HB.out, by rw [show ri + 1 - 1 = ri by omega, ← HA.out]; exact hap, trivial⟩
              case measure => simp [intOf]; omega
            · have hg1 : 1 ≤ g := by rw [hg]; exact (Nat.le_div_iff_mul_le (by omega)).2 (by omega)
              have hg0 : ((g : Int) == 0) = false := by simp; omega
              clear hg
              go_wp2_with fail
              go_meet
              exact ⟨ri, a, rfl, rfl, by omega, HA.out, by omega, HPR.out, rfl⟩
      · have hg1 : 1 ≤ g := by rw [hg]; exact (Nat.le_div_iff_mul_le (by omega)).2 (by omega)
        have hg0 : ((g : Int) == 0) = false := by simp; omega
        clear hg
        have hr1 : 1 ≤ rr := by
          rcases Nat.eq_zero_or_pos rr with h0 | h0
          · exfalso
            have h1 := HA.out
            rw [h0, pre_zero H.out.lead.up] at h1
            omega
          · exact h0
        go_wp2_with fail
        go_meet
        exact ⟨rr, a, rfl, rfl, hr1, HA.out, by omega, HPR.out.resolve_left (by omega), rfl⟩
  case rest =>
  obtain ⟨r0, a, rfl, rfl, hr1, ha, hap, hpr, rfl⟩ := hcut
  have hr20 : r0 ≤ 20 := pre_r (k := k) H.out.lead hr1 hk60 (by rw [← HP.out]; exact hpr)
  have ha10 : a < 10 * p := by
    have h3 := (pre_step (D := D) (nd := nd) (r := r0 - 1)).2
    rw [show r0 - 1 + 1 = r0 by omega] at h3
    omega
  obtain ⟨mk, hmk⟩ : ∃ mk, mk = p - 1 := ⟨_, rfl⟩
  have m1 : IntKind.u64.wrap ((2 : Int) ^ k) = (p : Int) := by
    have h1 : ((2 : Int) ^ k) = ((2 ^ k : Nat) : Int) := by simp
    rw [h1, ← HP.out]; exact word_in (by omega)
  have m2 : IntKind.u64.wrap ((p : Int) - 1) = (mk : Int) := by rw [IntWalk.u64_in _ (by omega)]; omega
  have HMK := Lib.hid hmk
  have HA := Lib.hid ha
  have HPR := Lib.hid hpr
  have HAP := Lib.hid hap
  clear hmk ha hpr
  have f1 := obj_free (i := 801) H.out.obj
  go_wp2_with fail
  obtain ⟨dp1, hdp1⟩ : ∃ x : Int, x = dp - ((r0 : Int) - 1) := ⟨_, rfl⟩
  rw [← hdp1]
  have HDP := Lib.hid hdp1
  clear hdp1
  have hm0 : ShrM wc (wc.setCell ⟨c, 801, none⟩ (.int .i64 dp1)) c D nd dp1 tr T r0 0 0 (cs.setIfInBounds 801 (.int .i64 dp1)) :=
    ⟨(Upd.refl _ _).set _ _, obj_set _ H.out.obj, H.out.raw.setInt (.inr rfl), by rw [set_other (by omega)]; exact H.out.cnd, set_same (by rw [H.out.raw.size]; omega), by rw [set_other (by omega)]; exact H.out.ctr, fun i h1 h2 => by rw [set_other (by omega)]; exact H.out.dig i h2, fun i hi => absurd hi (Nat.not_lt_zero _), by omega⟩
  have HM0 := Lib.hid hm0
  clear hm0 c8 f8 c9 f9 f1
  go_loopw [4, 5, 6] (fun r x n wx => ∃ (rr ww a Q : Nat) (cs' : Array Value), r = .int .i64 rr ∧ x = .int .i64 ww ∧ n = .int .u64 a ∧ rr ≤ 1000 ∧ rr = r0 + ww ∧ ww ≤ nd ∧ a < 10 * p ∧ FirstQ D nd p rr ww a Q ∧ ShrM wc wx c D nd dp1 tr T rr ww Q cs') (fun r x n wx => nd - (intOf r).toNat)
  case atStart => exact ⟨r0, 0, a, 0, _, rfl, rfl, rfl, by omega, rfl, Nat.zero_le _, ha10, ⟨by rw [HA.out]; omega, .inl ⟨rfl, rfl, hap⟩⟩, HM0.out⟩
  case round =>
    have HA0' := HA
    clear HM0 ha10 hap m1 m2
    obtain ⟨rr, ww, a1, Q, cs', rfl, rfl, rfl, hrr, hww, hwn, ha10, hfq, hm⟩ := hrel
    have q8 := obj_cell (i := 800) hm.obj hm.cnd
    have fq8 := obj_free (i := 800) hm.obj
    by_cases hr : rr < nd
    · obtain ⟨x, hx⟩ : ∃ x, x = dgt D (nd - 1 - rr) := ⟨_, rfl⟩
      obtain ⟨ch, hch⟩ : ∃ ch, ch = 48 + x := ⟨_, rfl⟩
      have cx := obj_cell (i := rr) hm.obj (hm.old rr (Nat.le_refl _) hr)
      rw [← hx, ← hch] at cx
      have hx9 : x < 10 := by rw [hx]; exact dgt_lt _ _
      have hch9 : ch ≤ 57 := by omega
      obtain ⟨g, hg⟩ : ∃ g, g = a1 / p := ⟨_, rfl⟩
      obtain ⟨lo, hlo⟩ : ∃ lo, lo = a1 % p := ⟨_, rfl⟩
      obtain ⟨gc, hgc⟩ : ∃ gc, gc = 48 + g := ⟨_, rfl⟩
      obtain ⟨t, ht⟩ : ∃ t, t = lo * 10 := ⟨_, rfl⟩
      obtain ⟨s, hs⟩ : ∃ s, s = t + ch := ⟨_, rfl⟩
      obtain ⟨b, hb⟩ : ∃ b, b = s - 48 := ⟨_, rfl⟩
      have hg9 : g < 10 := by rw [hg]; exact (Nat.div_lt_iff_lt_mul (by omega)).2 ha10
      have hlop : lo < p := by rw [hlo]; exact Nat.mod_lt _ (by omega)
      have hdiv : ((a1 : Int) / (2 : Int) ^ k) = (g : Int) := by rw [hg, HP.out]; simp
      have hand : bits .and .u64 (a1 : Int) (mk : Int) = (lo : Int) := by rw [HMK.out, HP.out, and_mask (by omega) hk60, ← HP.out, hlo]
      have e4 : IntKind.u64.wrap ((g : Int) + 48) = (gc : Int) := by rw [IntWalk.u64_in _ (by omega)]; omega
      have e5 : (gc : Int) % 256 = (gc : Int) := by omega
      have e1 : IntKind.u64.wrap ((lo : Int) * 10) = (t : Int) := by rw [IntWalk.u64_in _ (by omega)]; omega
      have e2 : IntKind.u64.wrap ((t : Int) + (ch : Int)) = (s : Int) := by rw [IntWalk.u64_in _ (by omega)]; omega
      have e3 : IntKind.u64.wrap ((s : Int) - 48) = (b : Int) := by rw [IntWalk.u64_in _ (by omega)]; omega
      have h8i : (rr : Int) < 800 := by omega
      have hw8 : ww < 800 := by omega
      have hw8i : (ww : Int) < 800 := by omega
      obtain ⟨b0, _, hb0⟩ := hm.raw.byte ww hw8
      have cv := obj_cell hm.obj hb0
      have fv := obj_free (i := ww) hm.obj
      have hb10 : b < 10 * p := by omega
      have hst := hm.step (rr' := rr + 1) (x := g) (by omega) hw8 (by omega) hg9
      have hdm : a1 = g * p + lo := by rw [hg, hlo, Nat.mul_comm]; exact (Nat.div_add_mod a1 p).symm
      have hfq2 : FirstQ D nd p (rr + 1) (ww + 1) b (10 * Q + g) := hfq.step hr (by omega) hdm hlop hg9 (by rw [← hx]; omega)
      have HFQ := Lib.hid hfq2
      rw [← hgc] at hst
      have HST := Lib.hid hst
      have HWW := Lib.hid hww
      clear hx hch hg hlo hgc ht hs hb hm hst hfq hfq2 hdm hww
      go_wp2_with fail
      go_roundw
      case rel => exact ⟨rr + 1, ww + 1, b, 10 * Q + g, cs'.setIfInBounds ww (.int .u8 (gc : Int)), by go_num, by go_num, rfl, by omega, by have := HWW.out; omega, by have := HWW.out; omega, hb10, HFQ.out, HST.out⟩
      case measure => simp [intOf]; omega
    · have HM := Lib.hid (hm.rr (rr' := 1000) hrr)
      have HGH := Lib.hid (hfq.gh (tr := tr) hww (by omega))
      have ha10' := ha10
      clear hm hfq ha10 hww
      go_wp2_with fail
      go_loopw [5, 6] (fun x n wx => ∃ (ww a Q j QQ : Nat) (t : Bool) (cs' : Array Value), x = .int .i64 ww ∧ n = .int .u64 a ∧ a < 10 * p ∧ Gh D nd p r0 tr ww j a Q QQ t ∧ ShrM wc wx c D nd dp1 t T 1000 ww Q cs') (fun x n wx => shrM k (intOf n).toNat)
      case atStart => exact ⟨ww, a1, Q, 0, Q, tr, cs', rfl, rfl, ha10', HGH.out, HM.out⟩
      case round =>
        clear HM HGH ha10' q8 fq8 hwn
        obtain ⟨ww, a2, Q, j, QQ, t, cs', rfl, rfl, ha10, hgh, hm⟩ := hrel
        have hw800 := hm.ww8
        by_cases haz : a2 = 0
        · subst haz
          have q8 := obj_cell (i := 800) hm.obj hm.cnd
          have fq8 := obj_free (i := 800) hm.obj
          have hw1 : Lead Q ww := hgh.written (by omega) hw800
          have hd : Dec (wr.setCell ⟨c, 800, none⟩ (.int .i64 (ww : Int))) c Q ww dp1 t (cs'.setIfInBounds 800 (.int .i64 (ww : Int))) T :=
            ⟨obj_set _ hm.obj, hm.raw.setInt (.inl rfl), hm.new.set (by omega), set_same (by rw [hm.raw.size]; omega), by rw [set_other (by omega)]; exact hm.cdp, by rw [set_other (by omega)]; exact hm.ctr, hw1, hw800⟩
          have HTR := Lib.hid (trim_any c Q ww dp1 t _ T _ hd)
          have HU := Lib.hid (hm.upd.set 800 (.int .i64 (ww : Int)))
          rw [HP.out] at hgh
          have HFIN := Lib.hid (rsh_fin (dp := dp) H.out.lead hw800 hgh)
          clear hm hw1 hd hgh ha10
          go_wp2_with fail
          refine HTR.out.mono ?_
          rintro e2 w2 ⟨rfl, hu3, hd3⟩
          have HR := Lib.hid (show ShrPost c D nd k dp tr T wc w2 from
            ⟨HU.out.trans hu3, by rw [HFIN.out, ← HDP.out]; exact hd3⟩)
          clear hu3 hd3
          go_wp2_with fail
          go_end0
          exact ⟨rfl, HR.out⟩
        · obtain ⟨g, hg⟩ : ∃ g, g = a2 / p := ⟨_, rfl⟩
          obtain ⟨lo, hlo⟩ : ∃ lo, lo = a2 % p := ⟨_, rfl⟩
          obtain ⟨gc, hgc⟩ : ∃ gc, gc = 48 + g := ⟨_, rfl⟩
          obtain ⟨u, ht⟩ : ∃ u, u = lo * 10 := ⟨_, rfl⟩
          have hg9 : g < 10 := by rw [hg]; exact (Nat.div_lt_iff_lt_mul (by omega)).2 ha10
          have hlop : lo < p := by rw [hlo]; exact Nat.mod_lt _ (by omega)
          have hdiv : ((a2 : Int) / (2 : Int) ^ k) = (g : Int) := by rw [hg, HP.out]; simp
          have hand : bits .and .u64 (a2 : Int) (mk : Int) = (lo : Int) := by rw [HMK.out, HP.out, and_mask (by omega) hk60, ← HP.out, hlo]
          have e4 : IntKind.u64.wrap ((g : Int) + 48) = (gc : Int) := by rw [IntWalk.u64_in _ (by omega)]; omega
          have e5 : (gc : Int) % 256 = (gc : Int) := by omega
          have e1 : IntKind.u64.wrap ((lo : Int) * 10) = (u : Int) := by rw [IntWalk.u64_in _ (by omega)]; omega
          have hdm : a2 = g * p + lo := by rw [hg, hlo, Nat.mul_comm]; exact (Nat.div_add_mod a2 p).symm
          have hpos : (0 : Int) < (a2 : Int) := by omega
          have ht10 : u < 10 * p := by omega
          have hmeas : shrM k u < shrM k a2 := by
            have h1 := shrM_lt (k := k) haz
            rw [← HP.out, ← hlo, ← ht] at h1
            exact h1
          have HME := Lib.hid hmeas
          by_cases hw8 : ww < 800
          · have hw8i : (ww : Int) < 800 := by omega
            obtain ⟨b0, _, hb0⟩ := hm.raw.byte ww hw8
            have cv := obj_cell hm.obj hb0
            have fv := obj_free (i := ww) hm.obj
            have hst := hm.step (rr' := 1000) (x := g) (Nat.le_refl _) hw8 (by omega) hg9
            rw [← hgc] at hst
            have HST := Lib.hid hst
            have HG2 := Lib.hid (hgh.put hw8 (by omega) hdm hlop hg9)
            rw [← ht] at HG2
            clear hg hlo hgc ht hm hst hgh hdm hmeas
            go_wp2_with fail
            go_roundw
            case rel => exact ⟨ww + 1, u, 10 * Q + g, j, 10 * QQ + g, t, cs'.setIfInBounds ww (.int .u8 (gc : Int)), by go_num, rfl, ht10, HG2.out, HST.out⟩
            case measure => exact HME.out
          · have hw8i : ¬ ((ww : Int) < 800) := by omega
            have HG2 := Lib.hid (hgh.drop hw8 hw800 (by omega) hdm hlop hg9)
            rw [← ht] at HG2
            by_cases hg0 : g = 0
            · have HM := Lib.hid hm
              have hgi : ((g : Nat) : Int) = 0 := by omega
              subst hg0
              clear hg hlo hgc ht hm hgh hdm hmeas
              go_wp2_with fail
              go_roundw
              case rel => exact ⟨ww, u, Q, j + 1, 10 * QQ + 0, t, cs', rfl, rfl, ht10, by simpa using HG2.out, HM.out⟩
              case measure => exact HME.out
            · have hgi : (0 : Int) < (g : Int) := by omega
              obtain ⟨b3, hb3⟩ := hm.raw.tr
              have c3 := obj_cell hm.obj hb3
              have f3 := obj_free (i := 803) hm.obj
              have HM := Lib.hid (hm.tru hle true)
              have HT := Lib.hid (show (t || decide (g ≠ 0)) = true by rw [decide_eq_true hg0, Bool.or_true])
              clear hg hlo hgc ht hm hgh hdm hmeas
              go_wp2_with fail
              go_roundw
              case rel => exact ⟨ww, u, Q, j + 1, 10 * QQ + g, true, cs'.setIfInBounds 803 (.bool true), rfl, rfl, ht10, by rw [← HT.out]; exact HG2.out, HM.out⟩
              case measure => exact HME.out
end Go.Proofs.YtiebedcldbmlhaaDoor.Fl
