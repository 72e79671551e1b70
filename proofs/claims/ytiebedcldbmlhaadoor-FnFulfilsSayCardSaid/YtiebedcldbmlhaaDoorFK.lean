/-
  prescale and parseFloat32. Conditions: a number of at most 64 bits that is not nought, an exponent from -70 to 40, the table of powers.
-/
import Derived.Test.YtiebedcldbmlhaaDoorFJ
namespace Go.Proofs.YtiebedcldbmlhaaDoor.Fl
open Go.RowKit
set_option linter.unusedVariables false

/-- The table of powers of ten. -/
structure PTab (T : Nat → Nat × Nat) (w : World) : Prop where
  hi : ∀ i, i < 696 → w.cell? ⟨10, i * 2, none⟩ = some (.int .u64 (T i).1)
  lo : ∀ i, i < 696 → w.cell? ⟨10, i * 2 + 1, none⟩ = some (.int .u64 (T i).2)
  b : ∀ i, (T i).1 < 18446744073709551616 ∧ (T i).2 < 18446744073709551616
theorem PTab.upd {T : Nat → Nat × Nat} {w w' : World} {c : Nat} (h : PTab T w) (hu : Upd c w w') (hc : 10 ≠ c) : PTab T w' :=
  ⟨fun i hi => hu.cell hc (h.hi i hi), fun i hi => hu.cell hc (h.lo i hi), h.b⟩
theorem PTab.below {T : Nat → Nat × Nat} {B : Nat} {w w' : World} (h : PTab T w) (hb : Below B w w') (hB : 10 < B) : PTab T w' :=
  ⟨fun i hi => (hb.cell (p := ⟨10, i * 2, none⟩) hB).trans (h.hi i hi), fun i hi => (hb.cell (p := ⟨10, i * 2 + 1, none⟩) hB).trans (h.lo i hi), h.b⟩
theorem Upd.below {c B : Nat} {w w' : World} (h : Upd c w w') (hB : B ≤ c) : Below B w w' := ⟨h.os, h.tape, h.output, Nat.le_of_eq h.size.symm, fun k hk => h.block k (by omega)⟩
theorem alloc_at (w : World) (o : Obj) : (w.alloc o).heap[w.heap.size]? = some o := by
  show (w.heap.push o)[w.heap.size]? = _
  simp
theorem below_drewN (B : Nat) (w : World) (n : Nat) : Below B w (w.drewN n) := ⟨rfl, rfl, rfl, Nat.le_refl _, fun _ _ => rfl⟩
theorem below_alloc (w : World) (o : Obj) : Below w.heap.size w (w.alloc o) := (Below.refl _ _).alloc (Nat.le_refl _) _
set_option maxRecDepth 100000 in
theorem presc_any (T : Nat → Nat × Nat) (b : Nat) (e p lp : Int) (x0 x1 x2 : Value) (ty : TypeId) (w : World) (hT : PTab T w) (hb : 10 ≠ b) (ho : w.heap[b]? = some (.cells #[x0, x1, x2] ty (0, 0)))
    (h1 : -100 ≤ p) (h2 : p ≤ 100) (h3 : -1000 ≤ e ∧ e ≤ 1000) (h4 : -1000 ≤ lp ∧ lp ≤ 1000) :
    Calls Tryd.prog 66 #[.pointer (some ⟨b, 0, none⟩), .int .i64 e, .int .i64 p, .int .i64 lp] w fun en w' => en = .returned (.tuple #[]) ∧ Upd b w w' ∧
      w'.heap[b]? = some (.cells #[.int .u64 (T (p + 348).toNat).1, .int .u64 (T (p + 348).toNat).2, .int .i64 (-(e + lp + 3))] ty (0, 0)) := by
  have HO := Lib.hid ho
  obtain ⟨j, hj⟩ : ∃ j : Nat, p + 348 = (j : Int) := ⟨(p + 348).toNat, by omega⟩
  have e1 : (p + 348).toNat = j := by omega
  rw [e1]
  have t0 := hT.hi j (by omega)
  have t1 := hT.lo j (by omega)
  obtain ⟨hi, hhi⟩ : ∃ v, v = (T j).1 := ⟨_, rfl⟩
  obtain ⟨lo, hlo⟩ : ∃ v, v = (T j).2 := ⟨_, rfl⟩
  rw [← hhi] at t0 ⊢
  rw [← hlo] at t1 ⊢
  have c0 : w.cell? ⟨b, 0, none⟩ = some x0 := obj_cell ho (by simp)
  have c1 : w.cell? ⟨b, 1, none⟩ = some x1 := obj_cell ho (by simp)
  have c2 : w.cell? ⟨b, 2, none⟩ = some x2 := obj_cell ho (by simp)
  have f0 := obj_free (i := 0) ho
  have f1 := obj_free (i := 1) ho
  have f2 := obj_free (i := 2) ho
  have h31 := h3.1
  have h32 := h3.2
  have h41 := h4.1
  have h42 := h4.2
  have hj1 : (j : Int) < 696 := by omega
  clear ho e1 hhi hlo h3 h4
  go_enter Tryd.func66, Tryd.ntmps66
  go_wp2_with fail
  go_end0
  refine ⟨rfl, (((Upd.refl _ _).set _ _).set _ _).set _ _, ?_⟩
  have := obj_set (i := 2) (.int .i64 (-(e + lp + 3))) (obj_set (i := 1) (.int .u64 lo) (obj_set (i := 0) (.int .u64 hi) HO.out))
  simpa using this

theorem blen_lt : ∀ (f x : Nat), x < 2 ^ f → x < 2 ^ Lib.bitLenAux f x ∧ Lib.bitLenAux f x ≤ f ∧ (0 < x → 1 ≤ Lib.bitLenAux f x)
  | 0, x, h => by simp [Lib.bitLenAux] at *; omega
  | f + 1, x, h => by
    unfold Lib.bitLenAux
    split
    · rename_i h0; subst h0; simp
    · rename_i h0
      obtain ⟨a, b, c⟩ := blen_lt f (x / 2) (by rw [Nat.pow_succ] at h; omega)
      refine ⟨?_, by omega, fun _ => by omega⟩
      rw [Nat.add_comm, Nat.pow_succ]
      omega
theorem blen_le : ∀ (f x k : Nat), x < 2 ^ k → Lib.bitLenAux f x ≤ k
  | 0, x, k, h => Nat.zero_le _
  | f + 1, x, k, h => by
    unfold Lib.bitLenAux
    split
    · omega
    · rename_i h0
      cases k with
      | zero => simp at h; omega
      | succ k =>
        have := blen_le f (x / 2) k (by rw [Nat.pow_succ] at h; omega)
        omega
theorem bitLen_facts {x : Nat} (h : x < 18446744073709551616) (h0 : 0 < x) : x < 2 ^ Lib.bitLen x ∧ Lib.bitLen x ≤ 64 ∧ 1 ≤ Lib.bitLen x := by
  obtain ⟨a, b, c⟩ := blen_lt 64 x h
  exact ⟨a, b, c h0⟩
theorem usc_lt {x hi lo s : Nat} (hx : x < 18446744073709551616) (hh : hi < 18446744073709551616) (hs : 37 ≤ s) : usc x hi lo s < 268435456 := by
  have key : ∀ a, a ≤ 18446744073709551615 → a / 2 ^ s < 2 ^ 28 := by
    intro a ha
    have h1 : 2 ^ 37 ≤ 2 ^ s := Nat.pow_le_pow_right (by decide) hs
    have h2 : a / 2 ^ s ≤ a / 2 ^ 37 := Nat.div_le_div_left h1 (by decide)
    omega
  have hA : x * hi / 18446744073709551616 ≤ 18446744073709551615 := by
    have h1 : x * hi ≤ 18446744073709551615 * 18446744073709551615 := Nat.mul_le_mul (by omega) (by omega)
    omega
  unfold usc
  split
  · have h1 : natOf (decide (1 < (x * hi % 18446744073709551616 + 18446744073709551616 - x * lo / 18446744073709551616) % 18446744073709551616)) < 2 ^ 28 := by
      unfold natOf; split <;> decide
    refine Nat.or_lt_two_pow (n := 28) (key _ ?_) h1
    split <;> omega
  · exact Nat.or_lt_two_pow (n := 28) (key _ hA) (by decide)

/-- parseFloat32: the bits of the float, and whether it is out of range. -/
def pfE (d : Nat) (p : Int) : Int := min 149 (24 - (Lib.bitLen d : Int) - p * 108853 / 32768)
def pfS (d : Nat) (p : Int) : Int := -(pfE d p - (64 - (Lib.bitLen d : Int)) + p * 108853 / 32768 + 3)
def pfU (T : Nat → Nat × Nat) (d : Nat) (p : Int) : Nat := usc (d * 2 ^ (64 - Lib.bitLen d)) (T (p + 348).toNat).1 (T (p + 348).toNat).2 (pfS d p).toNat
def pfK (T : Nat → Nat × Nat) (d : Nat) (p : Int) : Nat := natOf (decide (67108862 ≤ pfU T d p))
def pfM (T : Nat → Nat × Nat) (d : Nat) (p sgn : Int) : Int := bits .or .u32 sgn (rnd (pfU T d p / 2 ^ pfK T d p ||| pfU T d p % 2))
def pfB (T : Nat → Nat × Nat) (d : Nat) (p sgn : Int) : Nat := if 64 ≤ pfS d p then (bits .or .u32 sgn 0).toNat else packB (pfM T d p sgn) (-(pfE d p - pfK T d p))
def pfR (T : Nat → Nat × Nat) (d : Nat) (p sgn : Int) : Bool := if 64 ≤ pfS d p then false else packE (pfM T d p sgn) (-(pfE d p - pfK T d p))
theorem pfS_ge {d : Nat} {p : Int} (h : d < 18446744073709551616) (h0 : 0 < d) (h1 : -70 ≤ p) (h2 : p ≤ 40) : 37 ≤ pfS d p ∧ pfS d p ≤ 300 ∧ -300 ≤ pfE d p ∧ pfE d p ≤ 149 := by
  obtain ⟨_, b, c⟩ := bitLen_facts h h0
  unfold pfS pfE
  omega
/-- Not out of range where the number is small. -/
theorem pfR_small {T : Nat → Nat × Nat} {d : Nat} {p sgn : Int} (h : d < 18446744073709551616) (h0 : 0 < d) (h1 : -70 ≤ p) (h2 : p ≤ 17) : pfR T d p sgn = false := by
  obtain ⟨_, b, c⟩ := bitLen_facts h h0
  unfold pfR
  split
  · rfl
  · have hk : pfK T d p ≤ 1 := by unfold pfK natOf; split <;> omega
    unfold packE
    rw [decide_eq_false (by unfold pfE; omega), Bool.and_false]

def PfPost (T : Nat → Nat × Nat) (d : Nat) (p sgn : Int) (w : World) (en : Ending) (w' : World) : Prop := en = .returned (.tuple #[.float .f32 (pfB T d p sgn), errV (pfR T d p sgn)]) ∧ Below w.heap.size w w'
set_option maxHeartbeats 2000000 in
set_option maxRecDepth 100000 in
theorem pf32_any (T : Nat → Nat × Nat) (d : Nat) (p sgn : Int) (w : World) (hT : PTab T w) (hw : 10 < w.heap.size) (h : d < 18446744073709551616) (h0 : 0 < d) (h1 : -70 ≤ p) (h2 : p ≤ 40) :
    Calls Tryd.prog 53 #[.int .u64 d, .int .i64 p, .int .u32 sgn] w (PfPost T d p sgn w) := by
  obtain ⟨hs37, hs300, he1, he2⟩ := pfS_ge h h0 h1 h2
  obtain ⟨hb1, hb2, hb3⟩ := bitLen_facts h h0
  have hb32 := bits32_run
  have hlen := Tryd.bits_Len64 d
  rw [Int.toNat_natCast] at hlen
  have HLEN := Lib.hid (fun w => hlen w (by omega) (by omega))
  have HT := Lib.hid hT
  have HRB := Lib.hid (show pfB T d p sgn = if 64 ≤ pfS d p then (bits .or .u32 sgn 0).toNat else packB (pfM T d p sgn) (-(pfE d p - pfK T d p)) from rfl)
  have HRR := Lib.hid (show pfR T d p sgn = if 64 ≤ pfS d p then false else packE (pfM T d p sgn) (-(pfE d p - pfK T d p)) from rfl)
  have hM : pfM T d p sgn = bits .or .u32 sgn (rnd (pfU T d p / 2 ^ pfK T d p ||| pfU T d p % 2)) := rfl
  have hK : pfK T d p = natOf (decide (67108862 ≤ pfU T d p)) := rfl
  have hU : pfU T d p = usc (d * 2 ^ (64 - Lib.bitLen d)) (T (p + 348).toNat).1 (T (p + 348).toNat).2 (pfS d p).toNat := rfl
  have hE : pfE d p = min 149 (24 - (Lib.bitLen d : Int) - p * 108853 / 32768) := rfl
  have hS : pfS d p = -(pfE d p - (64 - (Lib.bitLen d : Int)) + p * 108853 / 32768 + 3) := rfl
  obtain ⟨hi, hhi⟩ : ∃ v, v = (T (p + 348).toNat).1 := ⟨_, rfl⟩
  obtain ⟨lo, hlo⟩ : ∃ v, v = (T (p + 348).toNat).2 := ⟨_, rfl⟩
  have hhb : hi < 18446744073709551616 := by rw [hhi]; exact (hT.b _).1
  have hlb : lo < 18446744073709551616 := by rw [hlo]; exact (hT.b _).2
  have HPS := Lib.hid (fun (b : Nat) (e lp : Int) (x0 x1 x2 : Value) (ty : TypeId) (w : World) (hT : PTab T w) (hb : 10 ≠ b) (ho : w.heap[b]? = some (.cells #[x0, x1, x2] ty (0, 0))) (h3 : -1000 ≤ e ∧ e ≤ 1000) (h4 : -1000 ≤ lp ∧ lp ≤ 1000) => presc_any T b e p lp x0 x1 x2 ty w hT hb ho (by omega) (by omega) h3 h4)
  rw [← hhi, ← hlo] at HPS hU
  generalize pfM T d p sgn = M at *
  generalize pfK T d p = K at *
  generalize pfU T d p = U at *
  generalize pfE d p = E at *
  generalize pfS d p = S at *
  obtain ⟨lp, hlp⟩ : ∃ lp, lp = p * 108853 / 32768 := ⟨_, rfl⟩
  have HLP := Lib.hid (fun w => l2p10_any p w (by omega) (by omega))
  rw [← hlp] at HLP hE hS
  have hlp1 : -300 ≤ lp ∧ lp ≤ 300 := by omega
  have hlp11 := hlp1.1
  have hlp12 := hlp1.2
  obtain ⟨b, hb⟩ : ∃ b, b = Lib.bitLen d := ⟨_, rfl⟩
  rw [← hb] at HLEN hE hS hU hb1 hb2 hb3
  have hmin : min 149 (24 - (b : Int) - lp) = E := hE.symm
  have HU := Lib.hid hU
  have HK := Lib.hid hK
  have HM := Lib.hid hM
  have HS := Lib.hid hS
  clear hT hlen hM hK hU hE hS hhi hlo hlp hlp1 hb
  go_enter Tryd.func53, Tryd.ntmps53
  go_wp2_with fail
  refine (HLEN.out _).mono ?_
  rintro e1 w1 ⟨rfl, rfl⟩
  go_wp2_with fail
  refine (HLP.out _).mono ?_
  rintro e1 w2 ⟨rfl, rfl⟩
  go_wp2_with fail
  refine (HPS.out w1.heap.size _ _ _ _ _ _ _ (HT.out.below (below_alloc _ _) hw) (by omega) (alloc_at _ _) (by omega) (by omega)).mono ?_
  rintro e1 w2 ⟨rfl, hu, ho⟩
  rw [← HS.out] at ho
  have c0 := obj_cell (i := 0) ho (v := .int .u64 hi) (by simp)
  have c1 := obj_cell (i := 1) ho (v := .int .u64 lo) (by simp)
  have c2 := obj_cell (i := 2) ho (v := .int .i64 S) (by simp)
  have HBe := Lib.hid ((below_alloc w1 _).trans (hu.below (Nat.le_refl _)))
  clear hu ho
  obtain ⟨s, rfl⟩ := Int.eq_ofNat_of_zero_le (show 0 ≤ S by omega)
  by_cases h64 : 64 ≤ s
  · have h64d : decide (64 ≤ s) = true := decide_eq_true h64
    have h64i : (64 : Int) ≤ (s : Int) := by omega
    have hv := HRB.out
    have hr := HRR.out
    rw [if_pos h64i] at hv hr
    have HV := Lib.hid hv
    have HR := Lib.hid hr
    clear hv hr
    go_wp2_with fail
    go_ret2
    exact ⟨by rw [HV.out, HR.out]; rfl, HBe.out⟩
  · have h64d : decide (64 ≤ s) = false := decide_eq_false h64
    have h64i : (s : Int) < 64 := by omega
    have hv := HRB.out
    have hr := HRR.out
    rw [if_neg (by omega)] at hv hr
    have HV := Lib.hid hv
    have HR := Lib.hid hr
    clear hv hr
    obtain ⟨x, hx⟩ : ∃ x, x = d * 2 ^ (64 - b) := ⟨_, rfl⟩
    have hx64 : x < 18446744073709551616 := by
      rw [hx]
      have h3 := (Nat.mul_lt_mul_right (Nat.pow_pos (n := 64 - b) (show 0 < 2 by decide))).2 hb1
      rw [← Nat.pow_add, show b + (64 - b) = 64 by omega] at h3
      exact h3
    have hxw : IntKind.u64.wrap ((d : Int) * (2 : Int) ^ (64 - b)) = (x : Int) := by
      have h3 : (d : Int) * (2 : Int) ^ (64 - b) = (x : Int) := by rw [hx]; simp
      rw [h3]; exact word_in (by omega)
    have hu := HU.out
    rw [Int.toNat_natCast, ← hx] at hu
    have hU28 : U < 268435456 := by rw [hu]; exact usc_lt hx64 hhb (by omega)
    have HSC := Lib.hid (uscale_any x w1.heap.size hi lo s w2 hx64 ⟨c0, c1, c2, hhb, hlb, by omega, by omega⟩)
    rw [← hu] at HSC
    have hk := HK.out
    have hK1 : K ≤ 1 := by rw [hk]; unfold natOf; split <;> omega
    have hk' : K = natOf (decide ((67108862 : Int) ≤ (U : Int))) := by rw [hk, decide_eq_decide.2 (show (67108862 ≤ U ↔ (67108862 : Int) ≤ (U : Int)) by omega)]
    have HBK := Lib.hid (b2int_any (decide ((67108862 : Int) ≤ (U : Int))))
    rw [← hk'] at HBK
    obtain ⟨g, hg⟩ : ∃ g, g = U / 2 ^ K := ⟨_, rfl⟩
    have hdiv : ((U : Int) / (2 : Int) ^ K) = (g : Int) := by rw [hg]; simp
    have hgU : g ≤ U := by rw [hg]; exact Nat.div_le_self _ _
    obtain ⟨y, hy⟩ : ∃ y, y = U % 2 := ⟨_, rfl⟩
    have hand := and_one (a := U) (by omega)
    rw [← hy] at hand
    have hy1 : y ≤ 1 := by omega
    obtain ⟨u, hu2⟩ : ∃ u, u = g ||| y := ⟨_, rfl⟩
    have hor := or_nat (a := g) (c := y) (by omega) (by omega)
    rw [← hu2] at hor
    have hu28 : u < 268435456 := by rw [hu2]; exact Nat.or_lt_two_pow (n := 28) (by omega) (by omega)
    have HRO := Lib.hid (fun w => round_any u w (by omega))
    obtain ⟨r, hr⟩ : ∃ r, r = rnd u := ⟨_, rfl⟩
    rw [← hr] at HRO
    have hr28 : r < 268435456 := by rw [hr]; unfold rnd; omega
    have hM := HM.out
    rw [← hg, ← hy, ← hu2, ← hr] at hM
    have hMo := hM.symm
    obtain ⟨F, hF⟩ : ∃ F : Int, F = -(E - (K : Int)) := ⟨_, rfl⟩
    rw [← hF] at HV HR
    have HP := Lib.hid (fun w => pack_any M F w (by omega) (by omega))
    rw [← HV.out, ← HR.out] at HP
    have hFo := hF.symm
    clear hx hu hk hk' hg hy hu2 hr hM hF
    go_wp2_with fail
    refine HSC.out.mono ?_
    rintro e1 w3 ⟨rfl, q, rfl⟩
    go_wp2_with fail
    refine (unmin_any _).mono ?_
    rintro e1 w3 ⟨rfl, rfl⟩
    go_wp2_with fail
    refine (HBK.out _).mono ?_
    rintro e1 w3 ⟨rfl, rfl⟩
    go_wp2_with fail
    refine (HRO.out _).mono ?_
    rintro e1 w3 ⟨rfl, rfl⟩
    go_wp2_with fail
    refine (HP.out _).mono ?_
    rintro e1 w3 ⟨rfl, rfl⟩
    go_wp2_with fail
    go_ret2
    exact ⟨rfl, HBe.out.trans (below_drewN _ _ _)⟩
end Go.Proofs.YtiebedcldbmlhaaDoor.Fl
