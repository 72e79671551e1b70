/-
  Joined: leftShift: the number times two to the k, its digits in place.
  Conditions: each law's own.
-/
import Derived.Test.YtiebedcldbmlhaaGreatDoorK02
import Derived.IntWalk
namespace Go.Proofs.YtiebedcldbmlhaaGreatDoor.Fl
open Go.RowKit
set_option linter.unusedVariables false

/-- The line of the table of digits for one shift. -/
structure Cheat (w : World) (k dl m : Nat) (b o cap : Nat) (ct : ByteArray) : Prop where
  g : w.cell? ⟨13, 0, none⟩ = some (.slice (some ⟨b, o, none⟩) 61 cap)
  c0 : w.cell? ⟨b, o + k * 2, none⟩ = some (.int .i64 dl)
  c1 : w.cell? ⟨b, o + k * 2 + 1, none⟩ = some (.string ct)
  k1 : 1 ≤ k
  k60 : k ≤ 60
  d1 : 1 ≤ dl
  dlo : 10 ^ (dl - 1) ≤ 2 ^ k
  dup : 2 ^ k < 10 ^ dl
  sum : m + dl = k + 1
  size : ct.size = m
  dig : ∀ i (h : i < ct.size), (ct[i]'h).toNat = 48 + dgt (5 ^ k) (m - 1 - i)

theorem shl_step {D j k n : Nat} (h : D * 2 ^ k / 10 ^ j = D / 10 ^ j * 2 ^ k + n) : D * 2 ^ k / 10 ^ (j + 1) = D / 10 ^ (j + 1) * 2 ^ k + (dgt D j * 2 ^ k + n) / 10 ∧ dgt (D * 2 ^ k) j = (dgt D j * 2 ^ k + n) % 10 := by
  have e := div_step D j
  have h1 : D * 2 ^ k / 10 ^ j = 10 * (D / 10 ^ (j + 1) * 2 ^ k) + (dgt D j * 2 ^ k + n) := by
    rw [h, e, Nat.add_mul]
    have : 10 * (D / 10 ^ (j + 1)) * 2 ^ k = 10 * (D / 10 ^ (j + 1) * 2 ^ k) := Nat.mul_assoc ..
    omega
  constructor
  · rw [Nat.pow_succ, ← Nat.div_div_eq_div_mul, h1]
    rw [Nat.pow_succ]
    omega
  · show D * 2 ^ k / 10 ^ j % 10 = _
    rw [h1]
    omega
theorem carry_lt {d n p : Nat} (hd : d < 10) (hn : n < p) : (d * p + n) / 10 < p := by
  have h1 : d * p ≤ 9 * p := Nat.mul_le_mul_right _ (by omega)
  omega

/-- The memory while the digits are worked out from the right: rr digits still to be read, those from wi on written. -/
structure ShlM (w wx : World) (c D nd N L : Nat) (dp : Int) (tr : Bool) (T : TypeId) (rr wi : Nat) (cs : Array Value) : Prop where
  upd : Upd c w wx
  obj : wx.heap[c]? = some (.cells cs T (0, 0))
  raw : Raw cs
  cnd : cs[800]? = some (.int .i64 nd)
  cdp : cs[801]? = some (.int .i64 dp)
  ctr : cs[803]? = some (.bool (tr || decide (N % 10 ^ (L - max wi 800) ≠ 0)))
  old : ∀ i, i < rr → cs[i]? = some (.int .u8 ((48 + dgt D (nd - 1 - i) : Nat) : Int))
  new : ∀ i, wi ≤ i → i < L → i < 800 → cs[i]? = some (.int .u8 ((48 + dgt N (L - 1 - i) : Nat) : Int))
theorem ShlM.step {w wx : World} {c D nd N L : Nat} {dp : Int} {tr : Bool} {T : TypeId} {rr q v : Nat} {cs : Array Value} (h : ShlM w wx c D nd N L dp tr T rr (v + 1) cs) (hr : q ≤ rr) (hv : v < 800) (hq : q ≤ v) (hL : v < L) {x : Nat} (hx : x = dgt N (L - 1 - v)) :
    ShlM w (wx.setCell ⟨c, v, none⟩ (.int .u8 ((48 + x : Nat) : Int))) c D nd N L dp tr T q v (cs.setIfInBounds v (.int .u8 ((48 + x : Nat) : Int))) := by
  subst hx
  refine ⟨h.upd.set _ _, obj_set _ h.obj, h.raw.set hv (by have := dgt_lt N (L - 1 - v); omega), by rw [set_other (by omega)]; exact h.cnd, by rw [set_other (by omega)]; exact h.cdp, ?_, fun i hi => ?_, fun i h1 h2 h3 => ?_⟩
  · rw [set_other (by omega)]
    have := h.ctr
    rw [show max (v + 1) 800 = 800 by omega] at this
    rw [show max v 800 = 800 by omega]; exact this
  · rw [set_other (by omega)]; exact h.old i (by omega)
  · by_cases e : v = i
    · subst e; exact set_same (by rw [h.raw.size]; omega)
    · rw [set_other e]; exact h.new i (by omega) h2 h3
theorem flag_step {N L v : Nat} (hv : ¬ v < 800) (hL : v < L) : decide (N % 10 ^ (L - max v 800) ≠ 0) = (decide (dgt N (L - 1 - v) ≠ 0) || decide (N % 10 ^ (L - max (v + 1) 800) ≠ 0)) := by
  rw [show max v 800 = v by omega, show max (v + 1) 800 = v + 1 by omega, show L - v = (L - 1 - v) + 1 by omega, mod_flag, show L - (v + 1) = L - 1 - v by omega]
theorem ShlM.skip {w wx : World} {c D nd N L : Nat} {dp : Int} {tr : Bool} {T : TypeId} {rr q v : Nat} {cs : Array Value} (h : ShlM w wx c D nd N L dp tr T rr (v + 1) cs) (hr : q ≤ rr) (hv : ¬ v < 800) (hL : v < L) (hx : dgt N (L - 1 - v) = 0) :
    ShlM w wx c D nd N L dp tr T q v cs :=
  ⟨h.upd, h.obj, h.raw, h.cnd, h.cdp, by rw [flag_step hv hL, hx]; simpa using h.ctr, fun i hi => h.old i (by omega), fun i h1 h2 h3 => h.new i (by omega) h2 h3⟩
theorem ShlM.tr {w wx : World} {c D nd N L : Nat} {dp : Int} {tr : Bool} {T : TypeId} {rr q v : Nat} {cs : Array Value} (h : ShlM w wx c D nd N L dp tr T rr (v + 1) cs) (hr : q ≤ rr) (hv : ¬ v < 800) (hL : v < L) (hx : dgt N (L - 1 - v) ≠ 0) :
    ShlM w (wx.setCell ⟨c, 803, none⟩ (.bool true)) c D nd N L dp tr T q v (cs.setIfInBounds 803 (.bool true)) := by
  refine ⟨h.upd.set _ _, obj_set _ h.obj, h.raw.setTr true, by rw [set_other (by omega)]; exact h.cnd, by rw [set_other (by omega)]; exact h.cdp, ?_, fun i hi => ?_, fun i h1 h2 h3 => by rw [set_other (by omega)]; exact h.new i (by omega) h2 h3⟩
  · rw [flag_step hv hL, decide_eq_true hx, Bool.true_or, Bool.or_true]; exact set_same (by rw [h.raw.size]; omega)
  by_cases e : i < 803
  · rw [set_other (by omega)]; exact h.old i (by omega)
  · exfalso
    have h1 := h.old i (by omega)
    by_cases e2 : i = 803
    · subst e2
      obtain ⟨b', hb'⟩ := h.raw.tr
      rw [hb'] at h1; cases h1
    · rw [Array.getElem?_eq_none (by rw [h.raw.size]; omega)] at h1; cases h1

theorem dec_fin {w : World} {c N L n : Nat} {dp : Int} {tr : Bool} {cs : Array Value} {T : TypeId} (ho : w.heap[c]? = some (.cells cs T (0, 0))) (hr : Raw cs) (hl : Lead N L) (h1 : 1 ≤ n) (h2 : n ≤ L) (h3 : n ≤ 800)
    (hd : ∀ i, i < L → i < 800 → cs[i]? = some (.int .u8 ((48 + dgt N (L - 1 - i) : Nat) : Int))) (hn : cs[800]? = some (.int .i64 n)) (hp : cs[801]? = some (.int .i64 dp)) (ht : cs[803]? = some (.bool tr)) : Dec w c (N / 10 ^ (L - n)) n dp tr cs T :=
  ⟨ho, hr, fun i hi => by rw [dgt_div, show n - 1 - i + (L - n) = L - 1 - i by omega]; exact hd i (by omega) (by omega), hn, hp, ht, lead_cut hl h1 h2, h3⟩
theorem ShlM.fin8 {w wx : World} {c D nd N L : Nat} {dp : Int} {tr : Bool} {T : TypeId} {cs : Array Value} (h : ShlM w wx c D nd N L dp tr T 0 0 cs) (hl : Lead N L) (h8 : 800 ≤ L) (x : Int) :
    ∃ cs', Dec (((wx.setCell ⟨c, 800, none⟩ (.int .i64 (L : Int))).setCell ⟨c, 800, none⟩ (.int .i64 800)).setCell ⟨c, 801, none⟩ (.int .i64 x)) c (N / 10 ^ (L - 800)) 800 x (tr || decide (N % 10 ^ (L - 800) ≠ 0)) cs' T ∧
      Upd c w (((wx.setCell ⟨c, 800, none⟩ (.int .i64 (L : Int))).setCell ⟨c, 800, none⟩ (.int .i64 800)).setCell ⟨c, 801, none⟩ (.int .i64 x)) := by
  refine ⟨_, dec_fin (obj_set _ (obj_set _ (obj_set _ h.obj))) (((h.raw.setInt (.inl rfl)).setInt (.inl rfl)).setInt (.inr rfl)) hl (by decide) h8 (Nat.le_refl _) (fun i h1 h2 => ?_) ?_ ?_ ?_, ((h.upd.set _ _).set _ _).set _ _⟩
  · rw [set_other (by omega), set_other (by omega), set_other (by omega)]; exact h.new i (Nat.zero_le _) h1 h2
  · rw [set_other (by omega)]; exact set_same (by simp [h.raw.size])
  · exact set_same (by simp [h.raw.size])
  · rw [set_other (by omega), set_other (by omega), set_other (by omega)]; exact h.ctr
theorem ShlM.fin {w wx : World} {c D nd N L : Nat} {dp : Int} {tr : Bool} {T : TypeId} {cs : Array Value} (h : ShlM w wx c D nd N L dp tr T 0 0 cs) (hl : Lead N L) (h8 : ¬ 800 ≤ L) (x : Int) :
    ∃ cs', Dec ((wx.setCell ⟨c, 800, none⟩ (.int .i64 (L : Int))).setCell ⟨c, 801, none⟩ (.int .i64 x)) c N L x tr cs' T ∧
      Upd c w ((wx.setCell ⟨c, 800, none⟩ (.int .i64 (L : Int))).setCell ⟨c, 801, none⟩ (.int .i64 x)) := by
  have hd := dec_fin (tr := tr) (dp := x) (n := L) (obj_set (.int .i64 x) (i := 801) (obj_set (.int .i64 (L : Int)) (i := 800) h.obj)) ((h.raw.setInt (.inl rfl)).setInt (.inr rfl)) hl hl.one (Nat.le_refl _) (by omega) (fun i h1 h2 => by rw [set_other (by omega), set_other (by omega)]; exact h.new i (Nat.zero_le _) h1 h2) (by rw [set_other (by omega)]; exact set_same (by simp [h.raw.size])) (set_same (by simp [h.raw.size])) (by
    rw [set_other (by omega), set_other (by omega)]
    have := h.ctr
    rw [show L - max 0 800 = 0 by omega, Nat.pow_zero, Nat.mod_one] at this
    simpa using this)
  rw [Nat.sub_self, Nat.pow_zero, Nat.div_one] at hd
  exact ⟨_, hd, (h.upd.set _ _).set _ _⟩
theorem cut_cut {N a b c : Nat} (h1 : c ≤ b) (h2 : b ≤ a) : N / 10 ^ (a - b) / 10 ^ (b - c) = N / 10 ^ (a - c) := by
  rw [Nat.div_div_eq_div_mul, ← Nat.pow_add, show a - b + (b - c) = a - c by omega]
theorem word_shl {x y k : Nat} (hy : y = x * 2 ^ k) (hy9 : y ≤ 10376293541461622784) : IntKind.u64.wrap ((48 + (x : Int) - 48) * 2 ^ k) = (y : Int) := by
  have h1 : (48 + (x : Int) - 48) * 2 ^ k = (y : Int) := by
    rw [show (48 + (x : Int) - 48) = x by omega, hy]; simp
  rw [h1]
  exact IntWalk.u64_in _ (by omega)
theorem word_in {a : Nat} (h : a ≤ 18446744073709551615) : IntKind.u64.wrap (a : Int) = (a : Int) := IntWalk.u64_in _ (by omega)

/-- What a shift to the left leaves behind. -/
def ShlPost (c D nd k L : Nat) (dp : Int) (tr : Bool) (T : TypeId) (w w' : World) : Prop := Upd c w w' ∧ DecS w' c (cut (D * 2 ^ k) L (dp + L - nd) tr) T

set_option maxHeartbeats 2000000 in
set_option maxRecDepth 100000 in
theorem lshift_any (c D nd k dl m b o cap : Nat) (ct : ByteArray) (dp : Int) (tr : Bool) (cs : Array Value) (T : TypeId) (w : World) (h : Dec w c D nd dp tr cs T) (hc : Cheat w k dl m b o cap ct) (hdp : -10000000 ≤ dp ∧ dp ≤ 10000000) (L : Nat) (hL : L = (if D * 10 ^ m < 5 ^ k * 10 ^ nd then nd + dl - 1 else nd + dl)) :
    Calls Tryz.prog 146 #[.pointer (some ⟨c, 0, none⟩), .int .u64 k] w fun e w' => e = .returned (.tuple #[]) ∧ ShlPost c D nd k L dp tr T w w' := by
  have HL := Lib.hid (left_len h.lead hc.d1 hc.dlo hc.dup hc.sum)
  have HLQ := Lib.hid hL
  clear hL
  obtain ⟨N, hN⟩ : ∃ N, N = D * 2 ^ k := ⟨_, rfl⟩
  obtain ⟨z, hz⟩ : ∃ z, z = decide (D * 10 ^ m < 5 ^ k * 10 ^ nd) := ⟨_, rfl⟩
  have HZ := Lib.hid hz
  have H := Lib.hid h
  have HC := Lib.hid hc
  have c8 := obj_cell (i := 800) h.obj h.cnd
  have f8 := obj_free (i := 800) h.obj
  have c9 := obj_cell (i := 801) h.obj h.cdp
  have f9 := obj_free (i := 801) h.obj
  have g0 := hc.g
  have g1 := hc.c0
  have g2 := hc.c1
  have hk1 := hc.k1
  have hk60 := hc.k60
  have hle := h.le
  have k61 : (k : Int) < 61 := by omega
  have k0 : (0 : Int) ≤ (k : Int) := by omega
  have n0 : (0 : Int) ≤ (nd : Int) := by omega
  have n8 : (nd : Int) ≤ 800 := by omega
  clear h hc hz
  go_enter Tryz.func146, Tryz.ntmps146
  go_wp2_with fail
  have hpre := fun (q cap : Nat) => prefix_any c D nd (5 ^ k) m ct cap (w.drewN q) hle HC.out.size (by have := HC.out.sum; omega) H.out.lead.up (by
      have h25 : 2 ^ k * 5 ^ k = 10 ^ k := by rw [← Nat.mul_pow]
      have h1 := HC.out.dlo
      have h2 : 10 ^ (dl - 1) * 5 ^ k ≤ 10 ^ k := by rw [← h25]; exact Nat.mul_le_mul_right _ h1
      have h3 : 10 ^ k = 10 ^ (dl - 1) * 10 ^ m := by rw [← Nat.pow_add]; congr 1; have := HC.out.sum; have := HC.out.d1; omega
      rw [h3] at h2
      have h4 := Nat.le_of_mul_le_mul_left h2 (p10 _)
      refine Nat.lt_of_le_of_ne h4 fun e => ?_
      have h5 : 10 ^ m = 2 ^ m * 5 ^ m := by rw [← Nat.mul_pow]
      have h6 : (5 ^ k) % 2 = 1 := by rw [Nat.pow_mod]; simp
      have hm1 : 1 ≤ m := by
        rcases Nat.eq_zero_or_pos m with h0 | h0
        · subst h0
          have h7 : 5 ^ 1 ≤ 5 ^ k := Nat.pow_le_pow_right (by decide) hk1
          rw [e] at h7
          exact absurd h7 (by decide)
        · exact h0
      rw [e, h5, show m = (m - 1) + 1 by omega, Nat.pow_succ 2, Nat.mul_right_comm, Nat.mul_mod_left] at h6
      exact absurd h6 (by decide)) (by
      have h6 : (5 ^ k) % 10 = 5 := by
        have : ∀ j, 5 ^ (j + 1) % 10 = 5 := by
          intro j
          induction j with
          | zero => rfl
          | succ j ih => rw [Nat.pow_succ, Nat.mul_mod, ih]
        rw [show k = (k - 1) + 1 by omega]; exact this _
      rw [h6]; decide) (fun i hi => obj_cell (w := w.drewN q) H.out.obj (H.out.dig i hi)) HC.out.dig
  rw [← HZ.out] at hpre
  have HP := Lib.hid hpre
  clear hpre
  go_quiet ((go_at_call 151; exact Calls.quiet_of (HP.out _ _)))
  have hL := HLQ.out
  have hLe : ∃ e, L = nd + e ∧ (z = true → dl = e + 1) ∧ (z = false → dl = e) := by
    have hd1 := HC.out.d1
    rw [hL, HZ.out]
    by_cases hlt : D * 10 ^ m < 5 ^ k * 10 ^ nd
    · rw [if_pos hlt]; exact ⟨dl - 1, by omega, fun _ => by omega, fun h => by simp [hlt] at h⟩
    · rw [if_neg hlt]; exact ⟨dl, rfl, fun h => by simp [hlt] at h, fun _ => rfl⟩
  obtain ⟨e, hLe, hz1, hz2⟩ := hLe
  have HLL := Lib.hid hL
  have HLe := Lib.hid hLe
  have hlead := HL.out
  rw [← hL, ← hN] at hlead
  have HLead := Lib.hid hlead
  have HN := Lib.hid hN
  have he62 : e ≤ 61 := by
    have h1 := HC.out.sum
    cases z with
    | true => have := hz1 rfl; omega
    | false => have := hz2 rfl; omega
  clear hL hLe hlead hN
  go_upto_if 30 with fail
  go_cut [4] from 31 to 32 (fun v wx => v = .int .i64 (e : Nat) ∧ wx = w.drewN nq)
  case first =>
    cases z with
    | true =>
      obtain rfl := hz1 rfl
      go_wp2_with fail
      go_meet
      exact ⟨by simp, rfl⟩
    | false =>
      obtain rfl := hz2 rfl
      go_wp2_with fail
      go_meet
      exact ⟨rfl, rfl⟩
  case rest =>
  obtain ⟨rfl, rfl⟩ := hcut
  clear hz1 hz2
  go_wp2_with fail
  go_loopw [5, 6, 7] (fun r x n wx => ∃ (rr wi cy j : Nat) (cs' : Array Value), r = .int .i64 ((rr : Int) - 1) ∧ x = .int .i64 wi ∧ n = .int .u64 cy ∧ rr + j = nd ∧ wi + j = L ∧ N / 10 ^ j = D / 10 ^ j * 2 ^ k + cy ∧ cy < 2 ^ k ∧ ShlM w wx c D nd N L dp tr T rr wi cs') (fun r _ _ wx => (intOf r + 1).toNat)
  case atStart =>
    refine ⟨nd, nd + e, 0, 0, cs, rfl, by first | rfl | simp, rfl, by omega, by have := HLe.out; omega, by simp [HN.out], Nat.pow_pos (by decide), ⟨(Upd.refl _ _).drewN _, H.out.obj, H.out.raw, H.out.cnd, H.out.cdp, ?_, fun i hi => H.out.dig i hi, fun i h1 h2 h3 => by rw [HLe.out] at h2; omega⟩⟩
    rw [show L - max (nd + e) 800 = 0 by rw [HLe.out]; omega, Nat.pow_zero, Nat.mod_one]; simpa using H.out.ctr
  case round =>
    obtain ⟨rr, wi, cy, j, cs', rfl, rfl, rfl, hj, hwi, hcy, hcl, hm⟩ := hrel
    have HCY := Lib.hid hcy
    have HCL := Lib.hid hcl
    have HJ := Lib.hid hj
    have HWI := Lib.hid hwi
    have hcy60 : cy < 1152921504606846976 := Nat.lt_of_lt_of_le hcl (by
      have h1 : 2 ^ k ≤ 2 ^ 60 := Nat.pow_le_pow_right (by decide) hk60
      exact h1)
    clear hcy hcl hj hwi
    by_cases hrr : rr = 0
    · subst hrr
      have hj2 : j = nd := by have := HJ.out; omega
      have hN2 : N / 10 ^ j = cy := by
        have h1 := HCY.out
        rw [hj2, Nat.div_eq_of_lt H.out.lead.up, Nat.zero_mul, Nat.zero_add] at h1
        rw [hj2]; exact h1
      have HN2 := Lib.hid hN2
      have HM := Lib.hid hm
      clear hj2 hN2 hm
      go_wp2_with fail
      go_loopw [6, 7] (fun x n wx => ∃ (wi cy j : Nat) (cs' : Array Value), x = .int .i64 wi ∧ n = .int .u64 cy ∧ wi + j = L ∧ N / 10 ^ j = cy ∧ cy < 1152921504606846976 ∧ ShlM w wx c D nd N L dp tr T 0 wi cs') (fun x n wx => (intOf n).toNat)
      case atStart => exact ⟨wi, cy, j, cs', rfl, rfl, HWI.out, HN2.out, hcy60, HM.out⟩
      case round =>
        clear HM HN2 HWI HJ HCL HCY hcy60
        obtain ⟨wi, cy, j, cs', rfl, rfl, hwi, hcy, hcl, hm⟩ := hrel
        have HCY := Lib.hid hcy
        have HWI := Lib.hid hwi
        have HM := Lib.hid hm
        clear hcy hwi hm
        by_cases h0 : cy = 0
        · subst h0
          have hL9 : L ≤ 900 := by have := HLe.out; omega
          have hjL : wi = 0 := by
            have h1 := HCY.out
            have h2 := (Nat.div_eq_zero_iff_lt (p10 j)).1 h1
            have h3 := HLead.out.low
            have h4 : L - 1 < j := by
              rcases Nat.lt_or_ge (L - 1) j with h | h
              · exact h
              · have := Nat.pow_le_pow_right (show 0 < 10 by decide) h; omega
            have := HWI.out; omega
          have HW0 := Lib.hid hjL
          clear hjL
          have q8 := obj_cell (i := 800) HM.out.obj HM.out.cnd
          have q9 := obj_cell (i := 801) HM.out.obj HM.out.cdp
          have fc := fun i => obj_free (i := i) HM.out.obj
          have fc8 := fc 800
          have fc9 := fc 801
          have hsum : ((nd : Nat) : Int) + ((e : Nat) : Int) = (L : Int) := by have := HLe.out; omega
          by_cases h8 : 800 ≤ L
          · have h8i : decide ((800 : Int) ≤ (L : Int)) = true := decide_eq_true (by omega)
            go_wp2_with fail
            have hm0 := HM.out
            rw [HW0.out] at hm0
            obtain ⟨cs2, hd2, hu2⟩ := hm0.fin8 HLead.out h8 (dp + e)
            refine (trim_any c _ _ _ _ cs2 T _ hd2).mono ?_
            rintro e2 w2 ⟨rfl, hu3, hd3⟩
            have HR := Lib.hid (show ShlPost c D nd k L dp tr T w w2 from
              ⟨hu2.trans hu3, by
                rw [← HN.out]
                unfold cut
                rw [if_pos h8, show dp + (L : Int) - (nd : Int) = dp + (e : Int) by omega]; exact hd3⟩)
            clear hd2 hu2 hu3 hd3 hm0
            go_wp2_with fail
            go_end0
            exact ⟨rfl, HR.out⟩
          · have h8i : decide ((800 : Int) ≤ (L : Int)) = false := decide_eq_false (by omega)
            go_wp2_with fail
            have hm0 := HM.out
            rw [HW0.out] at hm0
            obtain ⟨cs2, hd2, hu2⟩ := hm0.fin HLead.out h8 (dp + e)
            refine (trim_any c _ _ _ _ cs2 T _ hd2).mono ?_
            rintro e2 w2 ⟨rfl, hu3, hd3⟩
            have HR := Lib.hid (show ShlPost c D nd k L dp tr T w w2 from
              ⟨hu2.trans hu3, by
                rw [← HN.out]
                unfold cut
                rw [if_neg h8, show dp + (L : Int) - (nd : Int) = dp + (e : Int) by omega]; exact hd3⟩)
            clear hd2 hu2 hu3 hd3 hm0
            go_wp2_with fail
            go_end0
            exact ⟨rfl, HR.out⟩
        · have hjl : j < L := by
            have h1 := HCY.out
            have h3 := HLead.out.up
            rcases Nat.lt_or_ge j L with h | h
            · exact h
            · exfalso
              have h4 := Nat.pow_le_pow_right (show 0 < 10 by decide) h
              rw [Nat.div_eq_of_lt (by omega)] at h1
              omega
          obtain ⟨v, rfl⟩ : ∃ v, wi = v + 1 := ⟨wi - 1, by have := HWI.out; omega⟩
          obtain ⟨u, hu⟩ : ∃ u, u = cy / 10 := ⟨_, rfl⟩
          obtain ⟨t, ht⟩ : ∃ t, t = 10 * u := ⟨_, rfl⟩
          obtain ⟨rm, hrm⟩ : ∃ rm, rm = cy % 10 := ⟨_, rfl⟩
          obtain ⟨g, hg⟩ : ∃ g, g = 48 + rm := ⟨_, rfl⟩
          have hrm9 : rm < 10 := by omega
          have hu60 : u < 1152921504606846976 := by omega
          have hucy : u < cy := by omega
          have hv9 : v ≤ 900 := by have := HWI.out; have := HLe.out; omega
          have e3 : IntKind.u64.wrap ((cy : Int) / 10) = (u : Int) := by rw [IntWalk.u64_in _ (by omega)]; omega
          have e4 : IntKind.u64.wrap (10 * (u : Int)) = (t : Int) := by rw [IntWalk.u64_in _ (by omega)]; omega
          have e5 : IntKind.u64.wrap ((cy : Int) - (t : Int)) = (rm : Int) := by rw [IntWalk.u64_in _ (by omega)]; omega
          have e6 : IntKind.u64.wrap ((rm : Int) + 48) = (g : Int) := by rw [IntWalk.u64_in _ (by omega)]; omega
          have e7 : (g : Int) % 256 = (g : Int) := by omega
          have hD : dgt N (L - 1 - v) = rm ∧ N / 10 ^ (j + 1) = u := by
            have h3 : L - 1 - v = j := by have := HWI.out; omega
            have h4 := div_step N j
            have h5 := dgt_lt N j
            rw [HCY.out] at h4
            rw [h3]
            omega
          have HD := Lib.hid hD
          have HG := Lib.hid hg
          have HCYP := Lib.hid hucy
          have hpos : (0 : Int) < (cy : Int) := by omega
          clear hu ht hrm hg hD hucy
          have fc := fun i => obj_free (i := i) HM.out.obj
          have f3 := fc 803
          by_cases h800 : v < 800
          · have h8i : (v : Int) < 800 := by omega
            obtain ⟨b0, _, hb0⟩ := HM.out.raw.byte v h800
            have cv := obj_cell HM.out.obj hb0
            have fv := fc v
            go_wp2_with fail
            go_roundw
            case rel =>
              refine ⟨v, u, j + 1, cs'.setIfInBounds v (.int .u8 (g : Int)), rfl, rfl, by have := HWI.out; omega, HD.out.2, hu60, ?_⟩
              have h1 := HM.out.step (Nat.le_refl 0) h800 (Nat.zero_le _) (by have := HWI.out; omega) HD.out.1.symm
              rw [← HG.out] at h1
              exact h1
            case measure => have := HCYP.out; simp [intOf]; omega
          · have h8i : ¬ ((v : Int) < 800) := by omega
            by_cases hr0 : rm = 0
            · subst hr0
              go_wp2_with fail
              go_roundw
              case rel => exact ⟨v, u, j + 1, cs', rfl, rfl, by have := HWI.out; omega, HD.out.2, hu60, HM.out.skip (Nat.le_refl 0) h800 (by have := HWI.out; omega) HD.out.1⟩
              case measure => have := HCYP.out; simp [intOf]; omega
            · have hr0i : ((rm : Int) == 0) = false := by simpa using hr0
              obtain ⟨b3, hb3⟩ := HM.out.raw.tr
              have c3 := obj_cell HM.out.obj hb3
              go_wp2_with fail
              go_roundw
              case rel => exact ⟨v, u, j + 1, cs'.setIfInBounds 803 (.bool true), rfl, rfl, by have := HWI.out; omega, HD.out.2, hu60, HM.out.tr (Nat.le_refl 0) h800 (by have := HWI.out; omega) (by rw [HD.out.1]; exact hr0)⟩
              case measure => have := HCYP.out; simp [intOf]; omega
    · obtain ⟨q, rfl⟩ : ∃ q, rr = q + 1 := ⟨rr - 1, by omega⟩
      obtain ⟨v, rfl⟩ : ∃ v, wi = v + 1 := ⟨wi - 1, by have := HJ.out; have := HWI.out; have := HLe.out; omega⟩
      obtain ⟨x, hx⟩ : ∃ x, x = dgt D (nd - 1 - q) := ⟨_, rfl⟩
      have cx := obj_cell (i := q) hm.obj (hm.old q (by omega))
      rw [← hx] at cx
      have hx9 : x < 10 := by rw [hx]; exact dgt_lt _ _
      obtain ⟨y, hy⟩ : ∃ y, y = x * 2 ^ k := ⟨_, rfl⟩
      have hy9 : y ≤ 10376293541461622784 := by
        have h1 : 2 ^ k ≤ 2 ^ 60 := Nat.pow_le_pow_right (by decide) hk60
        rw [hy]
        exact Nat.mul_le_mul (show x ≤ 9 by omega) h1
      have hq8 : (q : Int) < 800 := by have := HJ.out; omega
      have HX := Lib.hid hx
      have HY := Lib.hid hy
      have HM := Lib.hid hm
      clear hx hy hm
      have r1 : ((q + 1 : Nat) : Int) - 1 = (q : Int) := by omega
      obtain ⟨s, hs⟩ : ∃ s, s = cy + y := ⟨_, rfl⟩
      obtain ⟨u, hu⟩ : ∃ u, u = s / 10 := ⟨_, rfl⟩
      obtain ⟨t, ht⟩ : ∃ t, t = 10 * u := ⟨_, rfl⟩
      obtain ⟨rm, hrm⟩ : ∃ rm, rm = s % 10 := ⟨_, rfl⟩
      obtain ⟨g, hg⟩ : ∃ g, g = 48 + rm := ⟨_, rfl⟩
      have hrm9 : rm < 10 := by omega
      have hv9 : v ≤ 900 := by have := HWI.out; have := HLe.out; omega
      have e1 := word_shl HY.out hy9
      have e2 : IntKind.u64.wrap ((cy : Int) + (y : Int)) = (s : Int) := by rw [IntWalk.u64_in _ (by omega)]; omega
      have e3 : IntKind.u64.wrap ((s : Int) / 10) = (u : Int) := by rw [IntWalk.u64_in _ (by omega)]; omega
      have e4 : IntKind.u64.wrap (10 * (u : Int)) = (t : Int) := by rw [IntWalk.u64_in _ (by omega)]; omega
      have e5 : IntKind.u64.wrap ((s : Int) - (t : Int)) = (rm : Int) := by rw [IntWalk.u64_in _ (by omega)]; omega
      have e6 : IntKind.u64.wrap ((rm : Int) + 48) = (g : Int) := by rw [IntWalk.u64_in _ (by omega)]; omega
      have e7 : (g : Int) % 256 = (g : Int) := by omega
      have HST := Lib.hid (shl_step (D := D) (j := j) (k := k) (n := cy) (by rw [← HN.out]; exact HCY.out))
      have HS := Lib.hid hs
      have HU := Lib.hid hu
      have HT := Lib.hid ht
      have HRM := Lib.hid hrm
      have HG := Lib.hid hg
      clear hs hu ht hrm hg
      have hD : dgt N (L - 1 - v) = rm ∧ N / 10 ^ (j + 1) = D / 10 ^ (j + 1) * 2 ^ k + u ∧ u < 2 ^ k := by
        have h1 := HST.out
        have h2 : nd - 1 - q = j := by have := HJ.out; omega
        have h3 : L - 1 - v = j := by have := HWI.out; omega
        rw [← HN.out] at h1
        have hX := HX.out
        rw [h2] at hX
        rw [← hX, ← HY.out, Nat.add_comm y cy, ← HS.out] at h1
        refine ⟨by rw [h3, h1.2, HRM.out], by rw [h1.1, HU.out], ?_⟩
        rw [HU.out, HS.out, HY.out, Nat.add_comm]
        exact carry_lt hx9 HCL.out
      have HD := Lib.hid hD
      clear hD
      have fc := fun i => obj_free (i := i) HM.out.obj
      have f3 := fc 803
      by_cases h800 : v < 800
      · have h8i : (v : Int) < 800 := by omega
        obtain ⟨b0, _, hb0⟩ := HM.out.raw.byte v h800
        have cv := obj_cell HM.out.obj hb0
        have fv := fc v
        go_wp2_with fail
        go_roundw
        case rel =>
          refine ⟨q, v, u, j + 1, cs'.setIfInBounds v (.int .u8 (g : Int)), rfl, rfl, rfl, by have := HJ.out; omega, by have := HWI.out; omega, HD.out.2.1, HD.out.2.2, ?_⟩
          have h1 := HM.out.step (Nat.le_succ q) h800 (by have := HJ.out; have := HWI.out; have := HLe.out; omega) (by have := HWI.out; omega) HD.out.1.symm
          rw [← HG.out] at h1
          exact h1
        case measure => simp [intOf]
      · have h8i : ¬ ((v : Int) < 800) := by omega
        by_cases hr0 : rm = 0
        · subst hr0
          go_wp2_with fail
          go_roundw
          case rel => exact ⟨q, v, u, j + 1, cs', rfl, rfl, rfl, by have := HJ.out; omega, by have := HWI.out; omega, HD.out.2.1, HD.out.2.2, HM.out.skip (Nat.le_succ q) h800 (by have := HJ.out; have := HWI.out; have := HLe.out; omega) HD.out.1⟩
          case measure => simp [intOf]
        · have hr0i : ((rm : Int) == 0) = false := by simpa using hr0
          obtain ⟨b3, hb3⟩ := HM.out.raw.tr
          have c3 := obj_cell HM.out.obj hb3
          go_wp2_with fail
          go_roundw
          case rel => exact ⟨q, v, u, j + 1, cs'.setIfInBounds 803 (.bool true), rfl, rfl, rfl, by have := HJ.out; omega, by have := HWI.out; omega, HD.out.2.1, HD.out.2.2, HM.out.tr (Nat.le_succ q) h800 (by have := HJ.out; have := HWI.out; have := HLe.out; omega) (by rw [HD.out.1]; exact hr0)⟩
          case measure => simp [intOf]
end Go.Proofs.YtiebedcldbmlhaaGreatDoor.Fl
