/-
  Joined: floatBits.
  Conditions: each law's own.
-/
import Derived.Test.YtiebedcldbmlhaaGreatDoorK05
namespace Go.Proofs.YtiebedcldbmlhaaGreatDoor.Fl
open Go.RowKit
set_option linter.unusedVariables false

/-- The tables that the slow path reads. -/
structure FEnv (w : World) (B : Nat) : Prop where
  i0 : w.cell? ⟨4, 0, none⟩ = some (.int .u64 23)
  i1 : w.cell? ⟨4, 1, none⟩ = some (.int .u64 8)
  i2 : w.cell? ⟨4, 2, none⟩ = some (.int .i64 (-127))
  p : ∃ b o cap, b < B ∧ w.cell? ⟨9, 0, none⟩ = some (.slice (some ⟨b, o, none⟩) 9 cap) ∧ ∀ i, i < 9 → w.cell? ⟨b, o + i, none⟩ = some (.int .i64 (tab i : Nat))
  c : ∃ b, b < B ∧ Cheats w b
  low : 4 < B ∧ 9 < B ∧ 13 < B
theorem FEnv.upd {w w' : World} {B c : Nat} (h : FEnv w B) (hu : Upd c w w') (hc : B ≤ c) : FEnv w' B := by
  obtain ⟨l1, l2, l3⟩ := h.low
  obtain ⟨b, o, cap, hb, hp, hq⟩ := h.p
  obtain ⟨b2, hb2, hcs⟩ := h.c
  exact ⟨hu.cell (by omega) h.i0, hu.cell (by omega) h.i1, hu.cell (by omega) h.i2, ⟨b, o, cap, hb, hu.cell (by omega) hp, fun i hi => hu.cell (by omega) (hq i hi)⟩, ⟨b2, hb2, hcs.upd hu (by omega) (by omega)⟩, h.low⟩
theorem DecS.drewN {w : World} {c : Nat} {s : St} {T : TypeId} (h : DecS w c s T) (n : Nat) : DecS (w.drewN n) c s T := by
  obtain ⟨cs, h⟩ := h
  exact ⟨cs, h.drewN n⟩
theorem Post.drewN {w w' : World} {c : Nat} {s : St} {T : TypeId} (h : Post c s T w w') (n : Nat) : Post c s T w (w'.drewN n) := ⟨h.1.drewN n, h.2.drewN n⟩
theorem shrN_dp : ∀ (n : Nat) (s : St), Ok s → Ok (shrN s n) ∧ (shrN s n).dp ≤ s.dp ∧ s.dp - n ≤ (shrN s n).dp := by
  intro n
  induction n using Nat.strongRecOn with
  | _ n ih =>
    intro s h
    by_cases h60 : n ≤ 60
    · rw [shrN_le h60]
      have := shr_dp h (k := n) (d := 0) (Nat.pow_pos (by decide))
      exact ⟨shr_ok h n, by omega, this.2⟩
    · rw [shrN_gt h60]
      obtain ⟨a, b, c⟩ := ih (n - 60) (by omega) (shr s 60) (shr_ok h 60)
      have := shr_dp h (k := 60) (d := 0) (by decide)
      exact ⟨a, by omega, by omega⟩
/-- The number in a cell. -/
def num (w : World) (c i : Nat) : Int := match w.cell? ⟨c, i, none⟩ with | some (.int _ n) => n | _ => 0
theorem DecS.facts {w : World} {c : Nat} {s : St} {T : TypeId} (h : DecS w c s T) : num w c 801 = s.dp ∧ num w c 0 = 48 + lead s.D s.nd ∧ w.cell? ⟨c, 801, none⟩ = some (.int .i64 s.dp) ∧ w.cell? ⟨c, 0, none⟩ = some (.int .u8 ((48 + lead s.D s.nd : Nat) : Int)) ∧ ∃ b : Bool, w.cell? ⟨c, 802, none⟩ = some (.bool b) := by
  obtain ⟨cs, h⟩ := h
  have h1 := h.lead.one
  have c1 := obj_cell (i := 801) h.obj h.cdp
  have c0 := obj_cell (i := 0) h.obj (h.dig 0 (by omega))
  have e : dgt s.D (s.nd - 1 - 0) = lead s.D s.nd := by
    unfold dgt
    have := (lead_range h.lead).2
    unfold lead at *
    rw [Nat.sub_zero]
    exact Nat.mod_eq_of_lt (by omega)
  rw [e] at c0
  obtain ⟨b, hb⟩ := h.raw.neg
  refine ⟨by unfold num; rw [c1], by unfold num; rw [c0]; simp, c1, c0, b, obj_cell h.obj hb⟩

def BitsPost (c : Nat) (s : St) (w : World) (e : Ending) (w' : World) : Prop := ∃ (bits : Int) (o : Bool), e = .returned (.tuple #[.int .u64 bits, .bool o]) ∧ FBits s o ∧ Upd c w w'
/-- What a round of the first loop knows. -/
def RelDown (c : Nat) (s : St) (T : TypeId) (w : World) (x : Value) (wx : World) : Prop :=
  ∃ (e : Int) (s' : St), x = .int .i64 e ∧ Post c s' T w wx ∧ (∀ a b, Down s' e a b → Down s 0 a b) ∧ 0 ≤ e ∧ e + 27 * mDown s' ≤ 27 * mDown s ∧ -357 ≤ s'.dp ∧ s'.dp ≤ 310
def RelUp (c : Nat) (s : St) (T : TypeId) (s1 : St) (e1 : Int) (w : World) (x : Value) (wx : World) : Prop :=
  ∃ (e : Int) (s' : St), x = .int .i64 e ∧ Post c s' T w wx ∧ (∀ a b, Up s' e a b → Up s1 e1 a b) ∧ e ≤ e1 ∧ e1 + 27 * mUp s' ≤ e + 27 * mUp s1 ∧ -357 ≤ s'.dp ∧ s'.dp ≤ 0

set_option maxHeartbeats 8000000 in
set_option maxRecDepth 100000 in
theorem fbits_any (c B : Nat) (s : St) (T : TypeId) (w : World) (h : DecS w c s T) (hE : FEnv w B) (hB : B ≤ c) (hdp : -10000000000 ≤ s.dp ∧ s.dp ≤ 10000000000) :
    Calls Tryz.prog 119 #[.pointer (some ⟨c, 0, none⟩), .pointer (some ⟨4, 0, none⟩)] w (BitsPost c s w) := by
  have HE := Lib.hid hE
  have HS := Lib.hid h
  have hok := h.ok
  have HOK := Lib.hid hok
  have HU := Lib.hid (Upd.refl c w)
  obtain ⟨nd, hnd⟩ : ∃ nd, nd = s.nd := ⟨_, rfl⟩
  obtain ⟨dp, hdpe⟩ : ∃ dp, dp = s.dp := ⟨_, rfl⟩
  have HDP := Lib.hid hdpe
  obtain ⟨_, _, c9, _, ng, c2⟩ := h.facts
  have c8 : w.cell? ⟨c, 800, none⟩ = some (.int .i64 nd) := by
    obtain ⟨cs, h⟩ := h
    rw [hnd]; exact obj_cell (i := 800) h.obj h.cnd
  rw [← hdpe] at c9 hdp
  have i0 := hE.i0
  have i1 := hE.i1
  have i2 := hE.i2
  have hnd1 : 1 ≤ nd := by rw [hnd]; exact hok.lead.one
  have hnz : ((nd : Int) == 0) = false := by simp; omega
  have hd1 := hdp.1
  have hd2 := hdp.2
  clear h hE hok hdp hnd hdpe
  go_enter Tryz.func119, Tryz.ntmps119
  go_wp2_with fail
  refine wp_scope_named 2 ?_
  intro R hR
  have HR := Lib.hid hR
  clear hR
  by_cases h310 : 310 < dp
  · have hd310 : decide (310 < dp) = true := decide_eq_true h310
    have HF := Lib.hid (show FBits s true by unfold FBits; rw [if_pos (by rw [← HDP.out]; exact h310)])
    go_wp2_with fail
    go_step3
    refine follow_named HR.out rfl ?_
    intro R1 hR1
    have HR1 := Lib.hid hR1
    clear hR1
    go_wp2_with fail
    go_quiet (fail)
    go_wp2_with fail
    go_step3
    go_wp2_with fail
    go_quiet (fail)
    cases ng with
    | true =>
      go_wp2_with fail
      go_quiet (fail)
      go_wp2_with fail
      refine follow_ret HR1.out ?_
      go_ret2
      exact ⟨_, _, rfl, HF.out, by repeat (first | exact HU.out | apply Upd.drewN)⟩
    | false =>
      go_wp2_with fail
      refine follow_ret HR1.out ?_
      go_ret2
      exact ⟨_, _, rfl, HF.out, by repeat (first | exact HU.out | apply Upd.drewN)⟩
  have hd310 : decide (310 < dp) = false := decide_eq_false h310
  by_cases h330 : dp < -330
  · have hd330 : decide (dp < -330) = true := decide_eq_true h330
    have HF := Lib.hid (show FBits s false by unfold FBits; rw [if_neg (by rw [← HDP.out]; exact h310), if_pos (by rw [← HDP.out]; exact h330)])
    go_wp2_with fail
    go_step3
    refine follow_named HR.out rfl ?_
    intro R1 hR1
    have HR1 := Lib.hid hR1
    clear hR1
    go_wp2_with fail
    go_quiet (fail)
    cases ng with
    | true =>
      go_wp2_with fail
      go_quiet (fail)
      go_wp2_with fail
      refine follow_ret HR1.out ?_
      go_ret2
      exact ⟨_, _, rfl, HF.out, by repeat (first | exact HU.out | apply Upd.drewN)⟩
    | false =>
      go_wp2_with fail
      refine follow_ret HR1.out ?_
      go_ret2
      exact ⟨_, _, rfl, HF.out, by repeat (first | exact HU.out | apply Upd.drewN)⟩
  have hd330 : decide (dp < -330) = false := decide_eq_false h330
  have hl0 := lead_range HOK.out.lead
  go_wp2_with fail
  go_loopw [6] (fun x wx => RelDown c s T w x wx) (fun x wx => (10 * num wx c 801 + num wx c 0 + 10000).toNat)
  case atStart => exact ⟨0, s, rfl, ⟨Upd.refl _ _, HS.out⟩, fun _ _ h => h, Int.le_refl _, by omega, by rw [← HDP.out]; omega, by rw [← HDP.out]; omega⟩
  case round =>
    clear c9 c2 c8
    obtain ⟨e, s', rfl, hpost, hdown, he0, hem, hdl, hdu⟩ := hrel
    have HPo := Lib.hid hpost
    have HDn := Lib.hid hdown
    have HEM := Lib.hid hem
    have hEr := HE.out.upd hpost.1 hB
    have HEr := Lib.hid hEr
    have i0 := hEr.i0
    have i1 := hEr.i1
    have i2 := hEr.i2
    obtain ⟨pb, po, pc, hpb, p0, pq⟩ := hEr.p
    have HPQ := Lib.hid pq
    have hok' := hpost.2.ok
    have HOK' := Lib.hid hok'
    obtain ⟨n801, n0, c9, c0, ng, c2⟩ := hpost.2.facts
    have HN := Lib.hid (And.intro n801 n0)
    have l1 := lead_range hok'.lead
    obtain ⟨dp', hdp'⟩ : ∃ dp', dp' = s'.dp := ⟨_, rfl⟩
    obtain ⟨ld, hld⟩ : ∃ ld, ld = lead s'.D s'.nd := ⟨_, rfl⟩
    have HDP' := Lib.hid hdp'
    have HLD := Lib.hid hld
    rw [← hdp'] at c9 hdl hdu
    rw [← hld] at c0 l1
    have hm0 : mDown s = 10 * dp + lead s.D s.nd := by unfold mDown; rw [HDP.out]
    have hm1 : mDown s' = 10 * dp' + ld := by unfold mDown; rw [HDP'.out, HLD.out]
    have heb : e ≤ 200000 := by omega
    clear hpost hdown hem hEr pq hok' n801 n0 hdp' hld hm0 hm1
    by_cases hpos : 0 < dp'
    · obtain ⟨j, rfl⟩ := Int.eq_ofNat_of_zero_le (show 0 ≤ dp' by omega)
      have hjn : s'.dp.toNat = j := by rw [← HDP'.out]; exact Int.toNat_natCast _
      have HJ := Lib.hid hjn
      have ht := tab_le j
      have hst := down_step HOK'.out (by rw [← HDP'.out]; exact hpos)
      rw [hjn] at hst
      have HST := Lib.hid hst
      have hstd := fun a b => @Down.step s' e a b (by rw [← HDP'.out]; exact hpos)
      rw [hjn] at hstd
      have HSTD := Lib.hid hstd
      have hS := shift_r c (tab j) s' T
      have HSH := Lib.hid hS
      have hm1 : mDown s' = 10 * (j : Int) + ld := by unfold mDown; rw [← HDP'.out, HLD.out]
      have HM1 := Lib.hid hm1
      clear hjn hst hstd hS hm1
      by_cases h9 : 9 ≤ j
      · have h9d : decide (9 ≤ j) = true := decide_eq_true h9
        have ht27 := tab_big h9
        have HT := Lib.hid ht27
        clear ht27
        go_wp2_with fail
        go_quiet (fail)
        go_wp2_with fail
        have hcall := HSH.out (wr.drewN nq) (HPo.out.2.drewN nq) ht.1 (by omega) (by rw [← HDP'.out]; omega)
        rw [shrN_le (by omega), HT.out] at hcall
        have HC := Lib.hid (show Calls Tryz.prog 139 #[.pointer (some ⟨c, 0, none⟩), .int .i64 (-27)] (wr.drewN nq) (fun e w' => e = .returned (.tuple #[]) ∧ Post c (shr s' 27) T (wr.drewN nq) w') from hcall)
        clear hcall
        refine HC.out.mono ?_
        rintro e2 w2 ⟨rfl, hp2⟩
        have HP2 := Lib.hid (show Post c (shr s' 27) T w w2 from ⟨(HPo.out.1.drewN _).trans hp2.1, hp2.2⟩)
        clear hp2
        go_wp2_with fail
        go_roundw
        case rel =>
          have hst := HST.out
          have hstd := HSTD.out
          have hem := HEM.out
          have hm1 := HM1.out
          rw [HT.out] at hst hstd
          refine ⟨e + 27, shr s' 27, rfl, HP2.out, fun a b h => HDn.out a b (hstd a b h), by omega, by omega, by omega, by rw [← HDP'.out] at hst; omega⟩
        case measure =>
          obtain ⟨m801, m0, _⟩ := HP2.out.2.facts
          have hst := HST.out
          have hm1 := HM1.out
          rw [HT.out] at hst
          rw [HN.out.1, HN.out.2, m801, m0, ← HLD.out, ← HDP'.out]
          unfold mDown at hst hm1
          rw [← HDP'.out, ← HLD.out] at hst
          omega
      · have h9d : decide (9 ≤ j) = false := decide_eq_false h9
        have pj := HPQ.out j (by omega)
        have hj9 : (j : Int) < 9 := by omega
        obtain ⟨t, htj⟩ : ∃ t, t = tab j := ⟨_, rfl⟩
        rw [← htj] at pj ht
        have HT := Lib.hid htj
        clear htj
        go_wp2_with fail
        go_quiet (fail)
        go_wp2_with fail
        go_quiet (fail)
        go_wp2_with fail
        have hcall : ∀ q, Calls Tryz.prog 139 #[.pointer (some ⟨c, 0, none⟩), .int .i64 (-(t : Int))] (wr.drewN q) (fun e w' => e = .returned (.tuple #[]) ∧ Post c (shr s' t) T (wr.drewN q) w') := by
          intro q
          have hcall := HSH.out (wr.drewN q) (HPo.out.2.drewN q) (by rw [← HT.out]; exact ht.1) (by rw [← HT.out]; omega) (by rw [← HDP'.out]; omega)
          rw [← HT.out, shrN_le (by omega)] at hcall
          exact hcall
        have HC := Lib.hid hcall
        clear hcall
        refine (HC.out _).mono ?_
        rintro e2 w2 ⟨rfl, hp2⟩
        have HP2 := Lib.hid (show Post c (shr s' t) T w w2 from ⟨(HPo.out.1.drewN _).trans hp2.1, hp2.2⟩)
        clear hp2
        go_wp2_with fail
        go_roundw
        case rel =>
          have hst := HST.out
          have hstd := HSTD.out
          have hem := HEM.out
          have hm1 := HM1.out
          rw [← HT.out] at hst hstd
          refine ⟨e + t, shr s' t, rfl, HP2.out, fun a b h => HDn.out a b (hstd a b h), by omega, by omega, by omega, by rw [← HDP'.out] at hst; omega⟩
        case measure =>
          obtain ⟨m801, m0, _⟩ := HP2.out.2.facts
          have hst := HST.out
          have hm1 := HM1.out
          rw [← HT.out] at hst
          rw [HN.out.1, HN.out.2, m801, m0, ← HLD.out, ← HDP'.out]
          unfold mDown at hst hm1
          rw [← HDP'.out, ← HLD.out] at hst
          omega
    · have hposd : decide (0 < dp') = false := decide_eq_false hpos
      have HDD := Lib.hid (HDn.out _ _ (Down.stop (s := s') (e := e) (by rw [← HDP'.out]; omega)))
      have hm2 : mUp s' = -10 * dp' + 10 - ld := by unfold mUp; rw [← HDP'.out, HLD.out]
      have HM2 := Lib.hid hm2
      have HE2 := HEr
      have HPo2 := HPo
      clear hm2 HEr
      go_wp2_with fail
      go_loopw [6] (fun x wx => RelUp c s T s' e w x wx) (fun x wx => (10 * -(num wx c 801) + 100 - num wx c 0).toNat)
      case atStart => exact ⟨e, s', rfl, HPo.out, fun _ _ h => h, Int.le_refl _, Int.le_refl _, by rw [← HDP'.out]; omega, by rw [← HDP'.out]; omega⟩
      case round =>
        clear c9 c2 c0 l1 i0 i1 i2 p0 HN HLD HEM HDn HPQ
        have hm1b : mUp s' ≤ 3600 := by rw [HM2.out]; omega
        obtain ⟨f, s2, rfl, hpost, hup, hfe, hem, hdl2, hdu2⟩ := hrel
        have HP2 := Lib.hid hpost
        have HUp := Lib.hid hup
        have HEM := Lib.hid hem
        have hEr := HE.out.upd hpost.1 hB
        have HEr := Lib.hid hEr
        have i0 := hEr.i0
        have i1 := hEr.i1
        have i2 := hEr.i2
        obtain ⟨pb2, po2, pc2, hpb2, p0, pq⟩ := hEr.p
        have HPQ := Lib.hid pq
        obtain ⟨cb, hcb, hch⟩ := hEr.c
        have HCH := Lib.hid hch
        have hok' := hpost.2.ok
        have HOK2 := Lib.hid hok'
        obtain ⟨n801, n0, c9, c0, ng, c2⟩ := hpost.2.facts
        have HN := Lib.hid (And.intro n801 n0)
        have l1 := lead_range hok'.lead
        obtain ⟨dq, hdq⟩ : ∃ dq, dq = s2.dp := ⟨_, rfl⟩
        obtain ⟨ld2, hld⟩ : ∃ ld2, ld2 = lead s2.D s2.nd := ⟨_, rfl⟩
        obtain ⟨v, hv⟩ : ∃ v, v = 48 + ld2 := ⟨_, rfl⟩
        have HDQ := Lib.hid hdq
        have HLD := Lib.hid hld
        rw [← hdq] at c9 hdl2 hdu2
        rw [← hld] at c0 l1
        rw [← hv] at c0
        have HV := Lib.hid hv
        have hv9 : 49 ≤ v ∧ v ≤ 57 := by omega
        have hm2 : mUp s2 = -10 * dq + 10 - ld2 := by unfold mUp; rw [HDQ.out, HLD.out]
        have hfb : -200000 ≤ f ∧ f ≤ 200000 := by omega
        have HM3 := Lib.hid hm2
        have hLow : Low s2 ↔ (dq < 0 ∨ dq = 0 ∧ v < 53) := by
          unfold Low
          rw [← HDQ.out, ← HLD.out]
          omega
        have HLow := Lib.hid hLow
        clear hpost hup hem hEr pq hch hok' n801 n0 hdq hld hv hm2 hLow
        by_cases hneg : dq < 0
        · obtain ⟨j, rfl⟩ : ∃ j : Nat, dq = -(j : Int) := ⟨(-dq).toNat, by omega⟩
          have hjn : (-s2.dp).toNat = j := by rw [← HDQ.out]; omega
          have ht := tab_le j
          have hlow := HLow.out.2 (.inl hneg)
          have hst := up_step HOK2.out (by rw [← HDQ.out]; omega) hlow
          rw [hjn] at hst
          have HST := Lib.hid hst
          have hstd := fun a b => @Up.step s2 f a b hlow
          rw [hjn] at hstd
          have HSTD := Lib.hid hstd
          have hnd : decide (-(j : Int) < 0) = true := decide_eq_true hneg
          have hjp : (0 : Int) < (j : Int) := by omega
          have hjpn : decide (0 < j) = true := decide_eq_true (by omega)
          clear hjn hst hstd hlow
          by_cases h9 : 9 ≤ j
          · have h9d : decide (9 ≤ j) = true := decide_eq_true h9
            have HT := Lib.hid (tab_big h9)
            have HC := Lib.hid (show ∀ q, Calls Tryz.prog 139 #[.pointer (some ⟨c, 0, none⟩), .int .i64 27] (wr.drewN q) (fun e w' => e = .returned (.tuple #[]) ∧ Post c (shl s2 27) T (wr.drewN q) w') from fun q =>
              shift_l c 27 cb s2 T (wr.drewN q) (HP2.out.2.drewN q) (HCH.out.upd ((Upd.refl c wr).drewN q) (by omega) (by have := HEr.out.low; omega)) (by decide) (by decide) (by rw [← HDQ.out]; omega))
            go_wp2_with fail
            go_quiet (fail)
            go_wp2_with fail
            refine (HC.out _).mono ?_
            rintro e2 w2 ⟨rfl, hp2⟩
            have HP3 := Lib.hid (show Post c (shl s2 27) T w w2 from ⟨(HP2.out.1.drewN _).trans hp2.1, hp2.2⟩)
            clear hp2
            go_wp2_with fail
            go_roundw
            case rel =>
              have hst := HST.out
              have hstd := HSTD.out
              have hem := HEM.out
              have hm1 := HM3.out
              rw [HT.out] at hst hstd
              exact ⟨f - 27, shl s2 27, rfl, HP3.out, fun a b h => HUp.out a b (hstd a b h), by omega, by omega, by rw [← HDQ.out] at hst; omega, hst.2.1⟩
            case measure =>
              obtain ⟨m801, m0, _⟩ := HP3.out.2.facts
              have hst := HST.out
              have hm1 := HM3.out
              rw [HT.out] at hst
              have l3 := lead_range HP3.out.2.ok.lead
              rw [HN.out.1, HN.out.2, m801, m0, ← HLD.out, ← HDQ.out]
              unfold mUp at hst hm1
              rw [← HDQ.out, ← HLD.out] at hst
              omega
          · have h9d : decide (9 ≤ j) = false := decide_eq_false h9
            have pj := HPQ.out j (by omega)
            have hj9 : (j : Int) < 9 := by omega
            obtain ⟨t, htj⟩ : ∃ t, t = tab j := ⟨_, rfl⟩
            rw [← htj] at pj ht
            have HT := Lib.hid htj
            have HC := Lib.hid (show ∀ q, Calls Tryz.prog 139 #[.pointer (some ⟨c, 0, none⟩), .int .i64 (t : Int)] (wr.drewN q) (fun e w' => e = .returned (.tuple #[]) ∧ Post c (shl s2 t) T (wr.drewN q) w') from fun q =>
              shift_l c t cb s2 T (wr.drewN q) (HP2.out.2.drewN q) (HCH.out.upd ((Upd.refl c wr).drewN q) (by omega) (by have := HEr.out.low; omega)) ht.1 (by omega) (by rw [← HDQ.out]; omega))
            clear htj
            go_wp2_with fail
            go_quiet (fail)
            go_wp2_with fail
            go_quiet (fail)
            go_wp2_with fail
            refine (HC.out _).mono ?_
            rintro e2 w2 ⟨rfl, hp2⟩
            have HP3 := Lib.hid (show Post c (shl s2 t) T w w2 from ⟨(HP2.out.1.drewN _).trans hp2.1, hp2.2⟩)
            clear hp2
            go_wp2_with fail
            go_roundw
            case rel =>
              have hst := HST.out
              have hstd := HSTD.out
              have hem := HEM.out
              have hm1 := HM3.out
              rw [← HT.out] at hst hstd
              exact ⟨f - t, shl s2 t, rfl, HP3.out, fun a b h => HUp.out a b (hstd a b h), by omega, by omega, by rw [← HDQ.out] at hst; omega, hst.2.1⟩
            case measure =>
              obtain ⟨m801, m0, _⟩ := HP3.out.2.facts
              have hst := HST.out
              have hm1 := HM3.out
              rw [← HT.out] at hst
              have l3 := lead_range HP3.out.2.ok.lead
              rw [HN.out.1, HN.out.2, m801, m0, ← HLD.out, ← HDQ.out]
              unfold mUp at hst hm1
              rw [← HDQ.out, ← HLD.out] at hst
              omega
        · obtain rfl : dq = 0 := by omega
          by_cases h53 : v < 53
          · have h53i : decide ((v : Int) < 53) = true := decide_eq_true (by omega)
            have h53n : decide (v < 53) = true := decide_eq_true h53
            have hjn : (-s2.dp).toNat = 0 := by rw [← HDQ.out]; rfl
            have hlow := HLow.out.2 (.inr ⟨rfl, h53⟩)
            have hst := up_step HOK2.out (by rw [← HDQ.out]; omega) hlow
            have t0 : tab 0 = 1 := rfl
            rw [hjn, t0] at hst
            have HST := Lib.hid hst
            have hstd := fun a b => @Up.step s2 f a b hlow
            rw [hjn, t0] at hstd
            have HSTD := Lib.hid hstd
            have pj : wr.cell? ⟨pb2, po2, none⟩ = some (.int .i64 1) := HPQ.out 0 (by decide)
            have HC := Lib.hid (show ∀ q, Calls Tryz.prog 139 #[.pointer (some ⟨c, 0, none⟩), .int .i64 1] (wr.drewN q) (fun e w' => e = .returned (.tuple #[]) ∧ Post c (shl s2 1) T (wr.drewN q) w') from fun q =>
              shift_l c 1 cb s2 T (wr.drewN q) (HP2.out.2.drewN q) (HCH.out.upd ((Upd.refl c wr).drewN q) (by omega) (by have := HEr.out.low; omega)) (by decide) (by decide) (by rw [← HDQ.out]; omega))
            clear hjn hst hstd hlow t0
            go_wp2_with fail
            go_quiet (fail)
            go_wp2_with fail
            go_quiet (fail)
            go_wp2_with fail
            refine (HC.out _).mono ?_
            rintro e2 w2 ⟨rfl, hp2⟩
            have HP3 := Lib.hid (show Post c (shl s2 1) T w w2 from ⟨(HP2.out.1.drewN _).trans hp2.1, hp2.2⟩)
            clear hp2
            go_wp2_with fail
            go_roundw
            case rel =>
              have hst := HST.out
              have hstd := HSTD.out
              have hem := HEM.out
              have hm1 := HM3.out
              exact ⟨f - 1, shl s2 1, rfl, HP3.out, fun a b h => HUp.out a b (hstd a b h), by omega, by omega, by rw [← HDQ.out] at hst; omega, hst.2.1⟩
            case measure =>
              obtain ⟨m801, m0, _⟩ := HP3.out.2.facts
              have hst := HST.out
              have hm1 := HM3.out
              have l3 := lead_range HP3.out.2.ok.lead
              rw [HN.out.1, HN.out.2, m801, m0, ← HLD.out, ← HDQ.out]
              unfold mUp at hst hm1
              rw [← HDQ.out, ← HLD.out] at hst
              omega
          · have h53i : decide ((v : Int) < 53) = false := decide_eq_false (by omega)
            have h53n : decide (v < 53) = false := decide_eq_false h53
            have HUU := Lib.hid (HUp.out _ _ (Up.stop (s := s2) (e := f) (fun hl => by have := HLow.out.1 hl; omega)))
            obtain ⟨g, hg⟩ : ∃ g, f - 1 = g := ⟨_, rfl⟩
            have HG := Lib.hid hg
            by_cases hlow : g < -126
            · have hlowd : decide (g < -126) = true := decide_eq_true hlow
              obtain ⟨k, hk⟩ : ∃ k : Nat, (-126 - g) = (k : Int) := ⟨(-126 - g).toNat, by omega⟩
              have hgk : g + (k : Int) = -126 := by omega
              have HT := Lib.hid (show ∀ o, Tail (shrN s2 k) (-126) o → FBits s o from fun o ht => by
                unfold FBits
                rw [if_neg (by have := HDP.out; omega), if_neg (by have := HDP.out; omega)]
                exact ⟨s', e, s2, f, HDD.out, HUU.out, by rw [if_pos (by omega), show (-126 - (f - 1)).toNat = k by omega]; exact ht⟩)
              have HSH2 := Lib.hid (shift_r c k s2 T wr HP2.out.2 (by omega) (by omega) (by rw [← HDQ.out]; omega))
              have HDQ3 := Lib.hid (show -10000000 ≤ (shrN s2 k).dp ∧ (shrN s2 k).dp ≤ 0 by have := shrN_dp k s2 HOK2.out; rw [← HDQ.out] at this; omega)
              go_wp2_with fail
              refine HSH2.out.mono ?_
              rintro e4 wq ⟨rfl, hp4⟩
              have HQ := Lib.hid (show Post c (shrN s2 k) T w wq from ⟨HP2.out.1.trans hp4.1, hp4.2⟩)
              clear hp4 i0 i1 i2 c2 c9 c0 p0
              have HEq := HE.out.upd HQ.out.1 hB
              have i2 := HEq.i2
              have i1 := HEq.i1
              clear HEq
              go_wp2_with fail
              have HEq := HE.out.upd HQ.out.1 hB
              have HEQ := Lib.hid HEq
              have i0 := HEq.i0
              have i1 := HEq.i1
              have i2 := HEq.i2
              obtain ⟨cb3, hcb3, hch3⟩ := HEq.c
              have HCH3 := Lib.hid hch3
              have hokq := HQ.out.2.ok
              have HOKQ := Lib.hid hokq
              obtain ⟨_, _, _, _, ng, c2⟩ := HQ.out.2.facts
              have HU := Lib.hid HQ.out.1
              clear hch3 hokq HEq
              go_quiet (fail)
              go_wp2_with fail
              have HC24 := Lib.hid (show ∀ q, Calls Tryz.prog 139 #[.pointer (some ⟨c, 0, none⟩), .int .i64 24] (wq.drewN q) (fun e w' => e = .returned (.tuple #[]) ∧ Post c (shl (shrN s2 k) 24) T (wq.drewN q) w') from fun q =>
                shift_l c 24 cb3 (shrN s2 k) T (wq.drewN q) (HQ.out.2.drewN q) (HCH3.out.upd ((Upd.refl c wq).drewN q) (by omega) (by have := HEQ.out.low; omega)) (by decide) (by decide) (by have := HDQ3.out; omega))
              refine (HC24.out _).mono ?_
              rintro e2 w2 ⟨rfl, hp2⟩
              have HP3 := Lib.hid (show Post c (shl (shrN s2 k) 24) T w w2 from ⟨(HQ.out.1.drewN _).trans hp2.1, hp2.2⟩)
              clear hp2 i0 i1 i2 c2 HU
              have HEq := HE.out.upd HP3.out.1 hB
              have i0 := HEq.i0
              have i1 := HEq.i1
              have i2 := HEq.i2
              obtain ⟨_, _, _, _, ng, c2⟩ := HP3.out.2.facts
              have HU := Lib.hid HP3.out.1
              have hdp24 := shl_dp HOKQ.out (k := 24) (d := 8) (by decide)
              have HRI := Lib.hid (rint_any c (shl (shrN s2 k) 24) T w2 HP3.out.2 (by have := HDQ3.out; omega))
              obtain ⟨m, hm⟩ : ∃ m, m = rint (shl (shrN s2 k) 24) := ⟨_, rfl⟩
              rw [← hm] at HRI
              have HMM := Lib.hid hm
              clear hdp24 hm HEq
              go_wp2_with fail
              refine HRI.out.mono ?_
              rintro e3 w3 ⟨rfl, rfl⟩
              by_cases hm24 : m = 16777216
              · have HM24 := Lib.hid hm24
                subst hm24
                have HF := Lib.hid (HT.out false (by unfold Tail; rw [if_neg (by decide), ← HMM.out]; rfl))
                go_wp2_with fail
                go_quiet (fail)
                go_wp2_with fail
                all_goals
                  go_step3
                  refine follow_named HR.out rfl ?_
                  intro R1 hR1
                  have HR1 := Lib.hid hR1
                  clear hR1
                  go_wp2_with fail
                  go_quiet (fail)
                  cases ng with
                  | true =>
                    go_wp2_with fail
                    go_quiet (fail)
                    go_wp2_with fail
                    refine follow_ret HR1.out ?_
                    go_ret2
                    exact ⟨_, _, rfl, HF.out, by repeat (first | exact HU.out | apply Upd.drewN)⟩
                  | false =>
                    go_wp2_with fail
                    refine follow_ret HR1.out ?_
                    go_ret2
                    exact ⟨_, _, rfl, HF.out, by repeat (first | exact HU.out | apply Upd.drewN)⟩
              · have hm24d : ((m : Int) == 16777216) = false := by simp; omega
                have HF := Lib.hid (HT.out false (by unfold Tail; rw [if_neg (by decide), ← HMM.out, decide_eq_false hm24, Bool.false_and]))
                go_wp2_with fail
                all_goals
                  go_step3
                  refine follow_named HR.out rfl ?_
                  intro R1 hR1
                  have HR1 := Lib.hid hR1
                  clear hR1
                  go_wp2_with fail
                  go_quiet (fail)
                  cases ng with
                  | true =>
                    go_wp2_with fail
                    go_quiet (fail)
                    go_wp2_with fail
                    refine follow_ret HR1.out ?_
                    go_ret2
                    exact ⟨_, _, rfl, HF.out, by repeat (first | exact HU.out | apply Upd.drewN)⟩
                  | false =>
                    go_wp2_with fail
                    refine follow_ret HR1.out ?_
                    go_ret2
                    exact ⟨_, _, rfl, HF.out, by repeat (first | exact HU.out | apply Upd.drewN)⟩
            · have hlowd : decide (g < -126) = false := decide_eq_false hlow
              have HT := Lib.hid (show ∀ o, Tail s2 g o → FBits s o from fun o ht => by
                unfold FBits
                rw [if_neg (by have := HDP.out; omega), if_neg (by have := HDP.out; omega)]
                exact ⟨s', e, s2, f, HDD.out, HUU.out, by rw [hg, if_neg hlow]; exact ht⟩)
              have HDQ3 := Lib.hid (show -10000000 ≤ s2.dp ∧ s2.dp ≤ 0 by rw [← HDQ.out]; omega)
              obtain ⟨wq, hwq⟩ : ∃ wq, wq = wr := ⟨_, rfl⟩
              go_wp2_with fail
              rw [← hwq]
              have HQ := HP2
              rw [← hwq] at HQ
              clear hwq i0 i1 i2 c2 c9 c0 p0
              have HEq := HE.out.upd HQ.out.1 hB
              have HEQ := Lib.hid HEq
              have i0 := HEq.i0
              have i1 := HEq.i1
              have i2 := HEq.i2
              obtain ⟨cb3, hcb3, hch3⟩ := HEq.c
              have HCH3 := Lib.hid hch3
              have hokq := HQ.out.2.ok
              have HOKQ := Lib.hid hokq
              obtain ⟨_, _, _, _, ng, c2⟩ := HQ.out.2.facts
              have HU := Lib.hid HQ.out.1
              clear hch3 hokq HEq
              by_cases h128 : 128 ≤ g
              · have h128d : decide (255 ≤ g + 127) = true := decide_eq_true (by omega)
                have HF := Lib.hid (HT.out true (by unfold Tail; rw [if_pos (by omega)]))
                go_quiet (fail)
                go_wp2_with fail
                go_step3
                refine follow_named HR.out rfl ?_
                intro R1 hR1
                have HR1 := Lib.hid hR1
                clear hR1
                go_wp2_with fail
                go_quiet (fail)
                go_wp2_with fail
                go_step3
                go_wp2_with fail
                go_quiet (fail)
                cases ng with
                | true =>
                  go_wp2_with fail
                  go_quiet (fail)
                  go_wp2_with fail
                  refine follow_ret HR1.out ?_
                  go_ret2
                  exact ⟨_, _, rfl, HF.out, by repeat (first | exact HU.out | apply Upd.drewN)⟩
                | false =>
                  go_wp2_with fail
                  refine follow_ret HR1.out ?_
                  go_ret2
                  exact ⟨_, _, rfl, HF.out, by repeat (first | exact HU.out | apply Upd.drewN)⟩
              · have h128d : decide (255 ≤ g + 127) = false := decide_eq_false (by omega)
                go_quiet (fail)
                go_wp2_with fail
                have HC24 := Lib.hid (show ∀ q, Calls Tryz.prog 139 #[.pointer (some ⟨c, 0, none⟩), .int .i64 24] (wq.drewN q) (fun e w' => e = .returned (.tuple #[]) ∧ Post c (shl s2 24) T (wq.drewN q) w') from fun q =>
                  shift_l c 24 cb3 s2 T (wq.drewN q) (HQ.out.2.drewN q) (HCH3.out.upd ((Upd.refl c wq).drewN q) (by omega) (by have := HEQ.out.low; omega)) (by decide) (by decide) (by have := HDQ3.out; omega))
                refine (HC24.out _).mono ?_
                rintro e2 w2 ⟨rfl, hp2⟩
                have HP3 := Lib.hid (show Post c (shl s2 24) T w w2 from ⟨(HQ.out.1.drewN _).trans hp2.1, hp2.2⟩)
                clear hp2 i0 i1 i2 c2 HU
                have HEq := HE.out.upd HP3.out.1 hB
                have i0 := HEq.i0
                have i1 := HEq.i1
                have i2 := HEq.i2
                obtain ⟨_, _, _, _, ng, c2⟩ := HP3.out.2.facts
                have HU := Lib.hid HP3.out.1
                have hdp24 := shl_dp HOKQ.out (k := 24) (d := 8) (by decide)
                have HRI := Lib.hid (rint_any c (shl s2 24) T w2 HP3.out.2 (by have := HDQ3.out; omega))
                obtain ⟨m, hm⟩ : ∃ m, m = rint (shl s2 24) := ⟨_, rfl⟩
                rw [← hm] at HRI
                have HMM := Lib.hid hm
                clear hdp24 hm HEq
                go_wp2_with fail
                refine HRI.out.mono ?_
                rintro e3 w3 ⟨rfl, rfl⟩
                by_cases hm24 : m = 16777216
                · have HM24 := Lib.hid hm24
                  subst hm24
                  by_cases h127 : 127 ≤ g
                  · have h127d : decide (255 ≤ g + 1 + 127) = true := decide_eq_true (by omega)
                    have HF := Lib.hid (HT.out true (by unfold Tail; rw [if_neg (by omega), ← HMM.out, decide_eq_true h127]; rfl))
                    go_wp2_with fail
                    go_quiet (fail)
                    go_wp2_with fail
                    go_step3
                    refine follow_named HR.out rfl ?_
                    intro R1 hR1
                    have HR1 := Lib.hid hR1
                    clear hR1
                    go_wp2_with fail
                    go_quiet (fail)
                    go_wp2_with fail
                    go_step3
                    go_wp2_with fail
                    go_quiet (fail)
                    cases ng with
                    | true =>
                      go_wp2_with fail
                      go_quiet (fail)
                      go_wp2_with fail
                      refine follow_ret HR1.out ?_
                      go_ret2
                      exact ⟨_, _, rfl, HF.out, by repeat (first | exact HU.out | apply Upd.drewN)⟩
                    | false =>
                      go_wp2_with fail
                      refine follow_ret HR1.out ?_
                      go_ret2
                      exact ⟨_, _, rfl, HF.out, by repeat (first | exact HU.out | apply Upd.drewN)⟩
                  · have h127d : decide (255 ≤ g + 1 + 127) = false := decide_eq_false (by omega)
                    have HF := Lib.hid (HT.out false (by unfold Tail; rw [if_neg (by omega), decide_eq_false h127, Bool.and_false]))
                    go_wp2_with fail
                    go_quiet (fail)
                    go_wp2_with fail
                    all_goals
                      go_step3
                      refine follow_named HR.out rfl ?_
                      intro R1 hR1
                      have HR1 := Lib.hid hR1
                      clear hR1
                      go_wp2_with fail
                      go_quiet (fail)
                      cases ng with
                      | true =>
                        go_wp2_with fail
                        go_quiet (fail)
                        go_wp2_with fail
                        refine follow_ret HR1.out ?_
                        go_ret2
                        exact ⟨_, _, rfl, HF.out, by repeat (first | exact HU.out | apply Upd.drewN)⟩
                      | false =>
                        go_wp2_with fail
                        refine follow_ret HR1.out ?_
                        go_ret2
                        exact ⟨_, _, rfl, HF.out, by repeat (first | exact HU.out | apply Upd.drewN)⟩
                · have hm24d : ((m : Int) == 16777216) = false := by simp; omega
                  have HF := Lib.hid (HT.out false (by unfold Tail; rw [if_neg (by omega), ← HMM.out, decide_eq_false hm24, Bool.false_and]))
                  go_wp2_with fail
                  all_goals
                    go_step3
                    refine follow_named HR.out rfl ?_
                    intro R1 hR1
                    have HR1 := Lib.hid hR1
                    clear hR1
                    go_wp2_with fail
                    go_quiet (fail)
                    cases ng with
                    | true =>
                      go_wp2_with fail
                      go_quiet (fail)
                      go_wp2_with fail
                      refine follow_ret HR1.out ?_
                      go_ret2
                      exact ⟨_, _, rfl, HF.out, by repeat (first | exact HU.out | apply Upd.drewN)⟩
                    | false =>
                      go_wp2_with fail
                      refine follow_ret HR1.out ?_
                      go_ret2
                      exact ⟨_, _, rfl, HF.out, by repeat (first | exact HU.out | apply Upd.drewN)⟩
set_option maxHeartbeats 2000000 in
set_option maxRecDepth 100000 in
theorem fbits_zero (c B : Nat) (w : World) (T : TypeId) (cs : Array Value) (ho : w.heap[c]? = some (.cells cs T (0, 0))) (hr : Raw cs) (hn : cs[800]? = some (.int .i64 0)) (hE : FEnv w B) :
    Calls Tryz.prog 119 #[.pointer (some ⟨c, 0, none⟩), .pointer (some ⟨4, 0, none⟩)] w (fun e w' => (∃ bits : Int, e = .returned (.tuple #[.int .u64 bits, .bool false])) ∧ Upd c w w') := by
  have HU := Lib.hid (Upd.refl c w)
  obtain ⟨ng, hng⟩ := hr.neg
  have c2 := obj_cell (i := 802) ho hng
  have c8 := obj_cell (i := 800) ho hn
  have i0 := hE.i0
  have i1 := hE.i1
  have i2 := hE.i2
  clear ho hr hn hE hng
  go_enter Tryz.func119, Tryz.ntmps119
  go_wp2_with fail
  refine wp_scope_named 2 ?_
  intro R hR
  have HR := Lib.hid hR
  clear hR
  go_wp2_with fail
  go_step3
  refine follow_named HR.out rfl ?_
  intro R1 hR1
  have HR1 := Lib.hid hR1
  clear hR1
  go_wp2_with fail
  go_quiet (fail)
  cases ng with
  | true =>
    go_wp2_with fail
    go_quiet (fail)
    go_wp2_with fail
    refine follow_ret HR1.out ?_
    go_ret2
    exact ⟨⟨_, rfl⟩, by repeat (first | exact HU.out | apply Upd.drewN)⟩
  | false =>
    go_wp2_with fail
    refine follow_ret HR1.out ?_
    go_ret2
    exact ⟨⟨_, rfl⟩, by repeat (first | exact HU.out | apply Upd.drewN)⟩
end Go.Proofs.YtiebedcldbmlhaaGreatDoor.Fl
