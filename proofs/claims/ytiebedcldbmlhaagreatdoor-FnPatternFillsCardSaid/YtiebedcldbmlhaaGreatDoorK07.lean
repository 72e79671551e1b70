/-
  Joined: The small functions of the fast path: floats out of bits, packing, rounding; prescale and parseFloat32; Texts as lists of numbers; the special names of floats.
  Conditions: each law's own.
-/
import Derived.Test.YtiebedcldbmlhaaGreatDoorK06
import Derived.Laws.FloatArith
namespace Go.Proofs.YtiebedcldbmlhaaGreatDoor.Fl
open Go.RowKit
set_option linter.unusedVariables false

theorem bits32_run (n : Int) (w : World) : (callFunc 115 #[.int .u32 n]).run Tryz.prog w = .ok (.value (.float .f32 n.toNat)) w := by
  rw [run_callFunc_extern Tryz.func115 (by kernel_rfl) (by kernel_rfl) (by kernel_rfl) (e := Extern.MathFloatBits.float32frombits) (by rfl)]
  rfl
def errV (b : Bool) : Value := if b then .iface 123 (.int .i64 1) else .nilIface
def packB (m e : Int) : Nat := if bits .and .u32 m 8388608 == 0 then m.toNat else if 105 ≤ e then (bits .or .u32 (bits .and .u32 m 2147483648) 2139095040).toNat else (bits .or .u32 (bits .andNot .u32 m 8388608) ((150 + e) % 4294967296 * 8388608 % 4294967296)).toNat
def packE (m e : Int) : Bool := !(bits .and .u32 m 8388608 == 0) && decide (105 ≤ e)
set_option maxRecDepth 100000 in
theorem pack_any (m : Int) (e : Int) (w : World) (h1 : -1000 ≤ e) (h2 : e ≤ 1000) : Calls Tryz.prog 137 #[.int .u32 m, .int .i64 e] w fun en w' => en = .returned (.tuple #[.float .f32 (packB m e), errV (packE m e)]) ∧ w = w' := by
  have hb := bits32_run
  obtain ⟨z, hz⟩ : ∃ z, z = (bits .and .u32 m 8388608 == 0) := ⟨_, rfl⟩
  obtain ⟨vb, hvb⟩ : ∃ v, v = packB m e := ⟨_, rfl⟩
  obtain ⟨ve, hve⟩ : ∃ v, v = errV (packE m e) := ⟨_, rfl⟩
  rw [← hvb, ← hve]
  unfold packB at hvb
  unfold packE errV at hve
  rw [← hz] at hvb hve
  cases z with
  | true =>
    have hzz := hz.symm
    have HB := Lib.hid hvb
    have HE := Lib.hid hve
    clear hvb hve hz
    go_enter Tryz.func137, Tryz.ntmps137
    go_wp2_with fail
    go_ret2
    exact ⟨by rw [HB.out, HE.out]; rfl, rfl⟩
  | false =>
    have hzz := hz.symm
    by_cases h3 : 105 ≤ e
    · have h3d : decide (105 ≤ e) = true := decide_eq_true h3
      rw [h3d] at hve
      rw [if_neg (by decide), if_pos h3] at hvb
      have HB := Lib.hid hvb
      have HE := Lib.hid hve
      clear hvb hve hz
      go_enter Tryz.func137, Tryz.ntmps137
      go_wp2_with fail
      go_ret2
      exact ⟨by rw [HB.out, HE.out]; rfl, rfl⟩
    · have h3d : decide (105 ≤ e) = false := decide_eq_false h3
      rw [h3d] at hve
      rw [if_neg (by decide), if_neg h3] at hvb
      have HB := Lib.hid hvb
      have HE := Lib.hid hve
      clear hvb hve hz
      go_enter Tryz.func137, Tryz.ntmps137
      go_wp2_with fail
      go_ret2
      exact ⟨by rw [HB.out, HE.out]; rfl, rfl⟩

theorem or_nat {a c : Nat} (ha : a < 18446744073709551616) (hc : c < 18446744073709551616) : bits .or .u64 (a : Int) (c : Int) = ((a ||| c : Nat) : Int) := by
  have h1 : (BitVec.ofInt 64 (a : Int)).toNat = a := by
    rw [BitVec.ofInt_natCast, BitVec.toNat_ofNat]; exact Nat.mod_eq_of_lt (by omega)
  have h2 : (BitVec.ofInt 64 (c : Int)).toNat = c := by
    rw [BitVec.ofInt_natCast, BitVec.toNat_ofNat]; exact Nat.mod_eq_of_lt (by omega)
  show IntKind.u64.wrap ((BitVec.ofInt 64 (a : Int) ||| BitVec.ofInt 64 (c : Int)).toNat : Int) = _
  rw [BitVec.toNat_or, h1, h2]
  have h3 : a ||| c < 2 ^ 64 := Nat.or_lt_two_pow (by omega) (by omega)
  exact IntWalk.u64_in _ (by omega)
theorem and_one {a : Nat} (ha : a < 18446744073709551616) : bits .and .u64 (a : Int) 1 = ((a % 2 : Nat) : Int) := by
  have := and_mask (k := 1) ha (by decide)
  simpa using this

def rnd (u : Nat) : Nat := (u + 1 + u / 4 % 2) / 4
set_option maxRecDepth 100000 in
theorem round_any (u : Nat) (w : World) (h : u ≤ 1000000000) : Calls Tryz.prog 138 #[.int .u64 u] w fun en w' => en = .returned (.int .u64 (rnd u : Nat)) ∧ w = w' := by
  obtain ⟨q, hq⟩ : ∃ q, q = u / 4 := ⟨_, rfl⟩
  have h4 : (u : Int) / 4 = (q : Int) := by omega
  obtain ⟨x, hx⟩ : ∃ x, x = q % 2 := ⟨_, rfl⟩
  have ha : bits .and .u64 (q : Int) 1 = (x : Int) := by rw [hx]; exact and_one (by omega)
  have hx1 : x ≤ 1 := by omega
  have HR := Lib.hid (show rnd u = (u + 1 + x) / 4 by unfold rnd; rw [hx, hq])
  clear hq hx
  go_enter Tryz.func138, Tryz.ntmps138
  go_wp2_with fail
  go_ret
  exact ⟨ret_int (by rw [HR.out]; omega), rfl⟩
set_option maxRecDepth 100000 in
theorem unmin_any (w : World) : Calls Tryz.prog 136 #[.int .u64 16777216] w fun en w' => en = .returned (.int .u64 67108862) ∧ w = w' := by
  go_enter Tryz.func136, Tryz.ntmps136
  go_wp2_with fail
  go_ret
  exact ⟨rfl, rfl⟩
set_option maxRecDepth 100000 in
theorem l2p10_any (p : Int) (w : World) (h1 : -1000 ≤ p) (h2 : p ≤ 1000) : Calls Tryz.prog 132 #[.int .i64 p] w fun en w' => en = .returned (.int .i64 (p * 108853 / 32768)) ∧ w = w' := by
  go_enter Tryz.func132, Tryz.ntmps132
  go_wp2_with fail
  go_ret
  exact ⟨rfl, rfl⟩
def natOf (b : Bool) : Nat := if b then 1 else 0
theorem b2u64_any (b : Bool) (w : World) : Calls Tryz.prog 120 #[.bool b] w fun en w' => en = .returned (.int .u64 (natOf b : Nat)) ∧ w' = w := by
  cases b
  · go_enter Tryz.func120, Tryz.ntmps120
    go_wp2_with fail
    go_ret
    exact ⟨rfl, rfl⟩
  · go_enter Tryz.func120, Tryz.ntmps120
    go_wp2_with fail
    go_ret
    exact ⟨rfl, rfl⟩
theorem b2u32_any (b : Bool) (w : World) : Calls Tryz.prog 114 #[.bool b] w fun en w' => en = .returned (.int .u32 (natOf b : Nat)) ∧ w = w' := by
  cases b
  · go_enter Tryz.func114, Tryz.ntmps114
    go_wp2_with fail
    go_ret
    exact ⟨rfl, rfl⟩
  · go_enter Tryz.func114, Tryz.ntmps114
    go_wp2_with fail
    go_ret
    exact ⟨rfl, rfl⟩
theorem b2int_any (b : Bool) (w : World) : Calls Tryz.prog 135 #[.bool b] w fun en w' => en = .returned (.int .i64 (natOf b : Nat)) ∧ w = w' := by
  cases b
  · go_enter Tryz.func135, Tryz.ntmps135
    go_wp2_with fail
    go_ret
    exact ⟨rfl, rfl⟩
  · go_enter Tryz.func135, Tryz.ntmps135
    go_wp2_with fail
    go_ret
    exact ⟨rfl, rfl⟩
/-- uscale -/
def usc (x hi lo s : Nat) : Nat :=
  if x * hi / 18446744073709551616 / 2 ^ s * 2 ^ s = x * hi / 18446744073709551616 then
    ((if x * hi % 18446744073709551616 < x * lo / 18446744073709551616 then (x * hi / 18446744073709551616 + 18446744073709551615) % 18446744073709551616 else x * hi / 18446744073709551616) / 2 ^ s) |||
      natOf (decide (1 < (x * hi % 18446744073709551616 + 18446744073709551616 - x * lo / 18446744073709551616) % 18446744073709551616))
  else (x * hi / 18446744073709551616 / 2 ^ s) ||| 1
/-- A scaler in memory. -/
structure Scal (w : World) (b hi lo s : Nat) : Prop where
  c0 : w.cell? ⟨b, 0, none⟩ = some (.int .u64 hi)
  c1 : w.cell? ⟨b, 1, none⟩ = some (.int .u64 lo)
  c2 : w.cell? ⟨b, 2, none⟩ = some (.int .i64 s)
  hi : hi < 18446744073709551616
  lo : lo < 18446744073709551616
  s0 : 37 ≤ s
  s1 : s ≤ 63
theorem and63 : ∀ i : Fin 64, bits .and .i64 ((i.val : Nat) : Int) 63 = ((i.val : Nat) : Int) := by decide +kernel
set_option maxHeartbeats 1000000 in
set_option maxRecDepth 100000 in
theorem uscale_any (x b hi lo s : Nat) (w : World) (hx : x < 18446744073709551616) (h : Scal w b hi lo s) :
    Calls Tryz.prog 134 #[.int .u64 x, .pointer (some ⟨b, 0, none⟩)] w fun en w' => en = .returned (.int .u64 (usc x hi lo s : Nat)) ∧ ∃ q, w' = w.drewN q := by
  obtain ⟨z, hz⟩ : ∃ z, z = usc x hi lo s := ⟨_, rfl⟩
  rw [← hz]
  unfold usc at hz
  have c0 := h.c0
  have c1 := h.c1
  have c2 := h.c2
  have hhi := h.hi
  have hlo := h.lo
  have s0 := h.s0
  have s1 := h.s1
  have ha := and63 ⟨s, by omega⟩
  simp only at ha
  obtain ⟨A, hA⟩ : ∃ A, A = x * hi / 18446744073709551616 := ⟨_, rfl⟩
  obtain ⟨M, hM⟩ : ∃ M, M = x * hi % 18446744073709551616 := ⟨_, rfl⟩
  obtain ⟨M2, hM2⟩ : ∃ M2, M2 = x * lo / 18446744073709551616 := ⟨_, rfl⟩
  obtain ⟨M3, hM3⟩ : ∃ M3, M3 = x * lo % 18446744073709551616 := ⟨_, rfl⟩
  have hm1 := Tryz.bits_Mul64 x hi hx hhi
  have hm2 := Tryz.bits_Mul64 x lo hx hlo
  rw [← hA, ← hM] at hm1
  rw [← hM2, ← hM3] at hm2
  rw [← hA, ← hM, ← hM2] at hz
  have HM1 := Lib.hid hm1
  have HM2 := Lib.hid hm2
  have hMb : M ≤ 18446744073709551615 := by rw [hM]; omega
  have hAb : A ≤ 18446744073709551615 := by
    have h1 : x * hi ≤ 18446744073709551615 * 18446744073709551615 := Nat.mul_le_mul (by omega) (by omega)
    rw [hA]; omega
  have hM2b : M2 ≤ 18446744073709551615 := by
    have h1 : x * lo ≤ 18446744073709551615 * 18446744073709551615 := Nat.mul_le_mul (by omega) (by omega)
    rw [hM2]; omega
  obtain ⟨g, hg⟩ : ∃ g, g = A / 2 ^ s := ⟨_, rfl⟩
  have hdiv : ((A : Int) / (2 : Int) ^ s) = (g : Int) := by rw [hg]; simp
  obtain ⟨v, hv⟩ : ∃ v, v = g * 2 ^ s := ⟨_, rfl⟩
  have hvA : v ≤ A := by rw [hv, hg]; exact Nat.div_mul_le_self _ _
  have hmul : IntKind.u64.wrap ((g : Int) * (2 : Int) ^ s) = (v : Int) := by
    have h1 : (g : Int) * (2 : Int) ^ s = (v : Int) := by rw [hv]; simp
    rw [h1]; exact word_in (by omega)
  have hgA : g ≤ A := by rw [hg]; exact Nat.div_le_self _ _
  rw [← hg, ← hv] at hz
  by_cases hvA2 : v = A
  · have htest : ((v : Int) != (A : Int)) = false := by rw [hvA2]; simp
    rw [if_pos hvA2] at hz
    obtain ⟨n1, hn1⟩ : ∃ n, n = natOf (decide (M < M2)) := ⟨_, rfl⟩
    obtain ⟨A', hA'⟩ : ∃ a, a = (if M < M2 then (A + 18446744073709551615) % 18446744073709551616 else A) := ⟨_, rfl⟩
    obtain ⟨d, hd⟩ : ∃ d, d = (M + 18446744073709551616 - M2) % 18446744073709551616 := ⟨_, rfl⟩
    obtain ⟨n2, hn2⟩ : ∃ n, n = natOf (decide (1 < d)) := ⟨_, rfl⟩
    obtain ⟨g2, hg2⟩ : ∃ g, g = A' / 2 ^ s := ⟨_, rfl⟩
    rw [← hA', ← hd, ← hn2, ← hg2] at hz
    have hA'b : A' ≤ 18446744073709551615 := by rw [hA']; split <;> omega
    have hdiv2 : ((A' : Int) / (2 : Int) ^ s) = (g2 : Int) := by rw [hg2]; simp
    have hg2A : g2 ≤ A' := by rw [hg2]; exact Nat.div_le_self _ _
    have hsub : IntKind.u64.wrap ((A : Int) - (n1 : Int)) = (A' : Int) := by
      rw [hn1, hA']
      unfold natOf
      by_cases hlt : M < M2
      · rw [decide_eq_true hlt, if_pos hlt]
        show IntKind.u64.wrap ((A : Int) - ((1 : Nat) : Int)) = _
        rcases Nat.eq_zero_or_pos A with h0 | h0
        · rw [h0]; decide
        · rw [IntWalk.u64_in _ (by omega)]; omega
      · rw [decide_eq_false hlt, if_neg hlt]
        show IntKind.u64.wrap ((A : Int) - ((0 : Nat) : Int)) = _
        rw [IntWalk.u64_in _ (by omega)]; omega
    have hdif : IntKind.u64.wrap ((M : Int) - (M2 : Int)) = (d : Int) := by
      rw [hd]
      have e : IntKind.u64.wrap ((M : Int) - (M2 : Int)) = ((M : Int) - (M2 : Int)) % 18446744073709551616 := by
        simp [IntKind.wrap, IntKind.bits, IntKind.signed]
      rw [e]
      omega
    have hn2b : n2 ≤ 1 := by rw [hn2]; unfold natOf; split <;> omega
    have hor := or_nat (a := g2) (c := n2) (by omega) (by omega)
    have HB1 := Lib.hid (b2u64_any (decide (M < M2)))
    rw [← hn1] at HB1
    have HN2 := Lib.hid hn2
    have HZ := Lib.hid hz
    clear hm1 hm2 hA hM hM2 hM3 h hz hg hv hn1 hA' hd hn2 hg2
    go_enter Tryz.func134, Tryz.ntmps134
    go_wp2_with fail
    refine (HM1.out _).mono ?_
    rintro e1 w1 ⟨rfl, rfl⟩
    go_wp2_with fail
    refine (HM2.out _).mono ?_
    rintro e1 w1 ⟨rfl, rfl⟩
    go_wp2_with fail
    refine (HB1.out _).mono ?_
    rintro e1 w1 ⟨rfl, rfl⟩
    go_wp2_with fail
    go_quiet ((go_at_call 120; exact Calls.quiet_of_same (b2u64_any _ _)))
    go_wp2_with fail
    go_ret
    have hdd : decide ((1 : Int) < (d : Int)) = decide (1 < d) := decide_eq_decide.2 (by omega)
    exact ⟨ret_int (by rw [HZ.out, hdd, ← HN2.out]; exact hor), _, rfl⟩
  · have htest : ((v : Int) != (A : Int)) = true := by simp; omega
    rw [if_neg hvA2] at hz
    have hor := or_nat (a := g) (c := 1) (by omega) (by decide)
    have HZ := Lib.hid hz
    clear hm1 hm2 hA hM hM2 hM3 h hz hg hv
    go_enter Tryz.func134, Tryz.ntmps134
    go_wp2_with fail
    refine (HM1.out _).mono ?_
    rintro e1 w1 ⟨rfl, rfl⟩
    go_wp2_with fail
    go_ret
    exact ⟨ret_int (by rw [HZ.out]; exact hor), 0, rfl⟩
end Go.Proofs.YtiebedcldbmlhaaGreatDoor.Fl
namespace Go.Proofs.YtiebedcldbmlhaaGreatDoor.Fl
open Go.RowKit
set_option linter.unusedVariables false

/-- The table of powers of ten. -/
structure PTab (T : Nat → Nat × Nat) (w : World) : Prop where
  hi : ∀ i, i < 696 → w.cell? ⟨12, i * 2, none⟩ = some (.int .u64 (T i).1)
  lo : ∀ i, i < 696 → w.cell? ⟨12, i * 2 + 1, none⟩ = some (.int .u64 (T i).2)
  b : ∀ i, (T i).1 < 18446744073709551616 ∧ (T i).2 < 18446744073709551616
theorem PTab.upd {T : Nat → Nat × Nat} {w w' : World} {c : Nat} (h : PTab T w) (hu : Upd c w w') (hc : 12 ≠ c) : PTab T w' :=
  ⟨fun i hi => hu.cell hc (h.hi i hi), fun i hi => hu.cell hc (h.lo i hi), h.b⟩
theorem PTab.below {T : Nat → Nat × Nat} {B : Nat} {w w' : World} (h : PTab T w) (hb : Below B w w') (hB : 12 < B) : PTab T w' :=
  ⟨fun i hi => (hb.cell (p := ⟨12, i * 2, none⟩) hB).trans (h.hi i hi), fun i hi => (hb.cell (p := ⟨12, i * 2 + 1, none⟩) hB).trans (h.lo i hi), h.b⟩
theorem Upd.below {c B : Nat} {w w' : World} (h : Upd c w w') (hB : B ≤ c) : Below B w w' := ⟨h.os, h.tape, h.output, Nat.le_of_eq h.size.symm, fun k hk => h.block k (by omega)⟩
theorem alloc_at (w : World) (o : Obj) : (w.alloc o).heap[w.heap.size]? = some o := by
  show (w.heap.push o)[w.heap.size]? = _
  simp
theorem below_drewN (B : Nat) (w : World) (n : Nat) : Below B w (w.drewN n) := ⟨rfl, rfl, rfl, Nat.le_refl _, fun _ _ => rfl⟩
theorem below_alloc (w : World) (o : Obj) : Below w.heap.size w (w.alloc o) := (Below.refl _ _).alloc (Nat.le_refl _) _
set_option maxRecDepth 100000 in
theorem presc_any (T : Nat → Nat × Nat) (b : Nat) (e p lp : Int) (x0 x1 x2 : Value) (ty : TypeId) (w : World) (hT : PTab T w) (hb : 12 ≠ b) (ho : w.heap[b]? = some (.cells #[x0, x1, x2] ty (0, 0)))
    (h1 : -100 ≤ p) (h2 : p ≤ 100) (h3 : -1000 ≤ e ∧ e ≤ 1000) (h4 : -1000 ≤ lp ∧ lp ≤ 1000) :
    Calls Tryz.prog 133 #[.pointer (some ⟨b, 0, none⟩), .int .i64 e, .int .i64 p, .int .i64 lp] w fun en w' => en = .returned (.tuple #[]) ∧ Upd b w w' ∧
      w'.heap[b]? = some (.cells #[.int .u64 (T (p + 348).toNat).1, .int .u64 (T (p + 348).toNat).2, .int .i64 (-(e + lp + 3))] ty (0, 0)) := by
  have HO := Lib.hid ho
  obtain ⟨j, hj⟩ : ∃ j : Nat, p + 348 = (j : Int) := ⟨(p + 348).toNat, by omega⟩
  have e1 : (p + 348).toNat = j := by omega
  rw [e1]
  have t0 := hT.hi j (by omega)
  have t1 := hT.lo j (by omega)
  obtain ⟨hi, hhi⟩ : ∃ v, v = (T j).1 := ⟨_, rfl⟩
  obtain ⟨lo, hlo⟩ : ∃ v, v = (T j).2 := ⟨_, rfl⟩
  rw [← hhi] at t0 ⊢
  rw [← hlo] at t1 ⊢
  have c0 : w.cell? ⟨b, 0, none⟩ = some x0 := obj_cell ho (by simp)
  have c1 : w.cell? ⟨b, 1, none⟩ = some x1 := obj_cell ho (by simp)
  have c2 : w.cell? ⟨b, 2, none⟩ = some x2 := obj_cell ho (by simp)
  have f0 := obj_free (i := 0) ho
  have f1 := obj_free (i := 1) ho
  have f2 := obj_free (i := 2) ho
  have h31 := h3.1
  have h32 := h3.2
  have h41 := h4.1
  have h42 := h4.2
  have hj1 : (j : Int) < 696 := by omega
  clear ho e1 hhi hlo h3 h4
  go_enter Tryz.func133, Tryz.ntmps133
  go_wp2_with fail
  go_end0
  refine ⟨rfl, (((Upd.refl _ _).set _ _).set _ _).set _ _, ?_⟩
  have := obj_set (i := 2) (.int .i64 (-(e + lp + 3))) (obj_set (i := 1) (.int .u64 lo) (obj_set (i := 0) (.int .u64 hi) HO.out))
  simpa using this

theorem blen_lt : ∀ (f x : Nat), x < 2 ^ f → x < 2 ^ Lib.bitLenAux f x ∧ Lib.bitLenAux f x ≤ f ∧ (0 < x → 1 ≤ Lib.bitLenAux f x)
  | 0, x, h => by simp [Lib.bitLenAux] at *; omega
  | f + 1, x, h => by
    unfold Lib.bitLenAux
    split
    · rename_i h0; subst h0; simp
    · rename_i h0
      obtain ⟨a, b, c⟩ := blen_lt f (x / 2) (by rw [Nat.pow_succ] at h; omega)
      refine ⟨?_, by omega, fun _ => by omega⟩
      rw [Nat.add_comm, Nat.pow_succ]
      omega
theorem blen_le : ∀ (f x k : Nat), x < 2 ^ k → Lib.bitLenAux f x ≤ k
  | 0, x, k, h => Nat.zero_le _
  | f + 1, x, k, h => by
    unfold Lib.bitLenAux
    split
    · omega
    · rename_i h0
      cases k with
      | zero => simp at h; omega
      | succ k =>
        have := blen_le f (x / 2) k (by rw [Nat.pow_succ] at h; omega)
        omega
theorem bitLen_facts {x : Nat} (h : x < 18446744073709551616) (h0 : 0 < x) : x < 2 ^ Lib.bitLen x ∧ Lib.bitLen x ≤ 64 ∧ 1 ≤ Lib.bitLen x := by
  obtain ⟨a, b, c⟩ := blen_lt 64 x h
  exact ⟨a, b, c h0⟩
theorem usc_lt {x hi lo s : Nat} (hx : x < 18446744073709551616) (hh : hi < 18446744073709551616) (hs : 37 ≤ s) : usc x hi lo s < 268435456 := by
  have key : ∀ a, a ≤ 18446744073709551615 → a / 2 ^ s < 2 ^ 28 := by
    intro a ha
    have h1 : 2 ^ 37 ≤ 2 ^ s := Nat.pow_le_pow_right (by decide) hs
    have h2 : a / 2 ^ s ≤ a / 2 ^ 37 := Nat.div_le_div_left h1 (by decide)
    omega
  have hA : x * hi / 18446744073709551616 ≤ 18446744073709551615 := by
    have h1 : x * hi ≤ 18446744073709551615 * 18446744073709551615 := Nat.mul_le_mul (by omega) (by omega)
    omega
  unfold usc
  split
  · have h1 : natOf (decide (1 < (x * hi % 18446744073709551616 + 18446744073709551616 - x * lo / 18446744073709551616) % 18446744073709551616)) < 2 ^ 28 := by
      unfold natOf; split <;> decide
    refine Nat.or_lt_two_pow (n := 28) (key _ ?_) h1
    split <;> omega
  · exact Nat.or_lt_two_pow (n := 28) (key _ hA) (by decide)

/-- parseFloat32: the bits of the float, and whether it is out of range. -/
def pfE (d : Nat) (p : Int) : Int := min 149 (24 - (Lib.bitLen d : Int) - p * 108853 / 32768)
def pfS (d : Nat) (p : Int) : Int := -(pfE d p - (64 - (Lib.bitLen d : Int)) + p * 108853 / 32768 + 3)
def pfU (T : Nat → Nat × Nat) (d : Nat) (p : Int) : Nat := usc (d * 2 ^ (64 - Lib.bitLen d)) (T (p + 348).toNat).1 (T (p + 348).toNat).2 (pfS d p).toNat
def pfK (T : Nat → Nat × Nat) (d : Nat) (p : Int) : Nat := natOf (decide (67108862 ≤ pfU T d p))
def pfM (T : Nat → Nat × Nat) (d : Nat) (p sgn : Int) : Int := bits .or .u32 sgn (rnd (pfU T d p / 2 ^ pfK T d p ||| pfU T d p % 2))
def pfB (T : Nat → Nat × Nat) (d : Nat) (p sgn : Int) : Nat := if 64 ≤ pfS d p then (bits .or .u32 sgn 0).toNat else packB (pfM T d p sgn) (-(pfE d p - pfK T d p))
def pfR (T : Nat → Nat × Nat) (d : Nat) (p sgn : Int) : Bool := if 64 ≤ pfS d p then false else packE (pfM T d p sgn) (-(pfE d p - pfK T d p))
theorem pfS_ge {d : Nat} {p : Int} (h : d < 18446744073709551616) (h0 : 0 < d) (h1 : -70 ≤ p) (h2 : p ≤ 40) : 37 ≤ pfS d p ∧ pfS d p ≤ 300 ∧ -300 ≤ pfE d p ∧ pfE d p ≤ 149 := by
  obtain ⟨_, b, c⟩ := bitLen_facts h h0
  unfold pfS pfE
  omega
/-- Not out of range where the number is small. -/
theorem pfR_small {T : Nat → Nat × Nat} {d : Nat} {p sgn : Int} (h : d < 18446744073709551616) (h0 : 0 < d) (h1 : -70 ≤ p) (h2 : p ≤ 17) : pfR T d p sgn = false := by
  obtain ⟨_, b, c⟩ := bitLen_facts h h0
  unfold pfR
  split
  · rfl
  · have hk : pfK T d p ≤ 1 := by unfold pfK natOf; split <;> omega
    unfold packE
    rw [decide_eq_false (by unfold pfE; omega), Bool.and_false]

def PfPost (T : Nat → Nat × Nat) (d : Nat) (p sgn : Int) (w : World) (en : Ending) (w' : World) : Prop := en = .returned (.tuple #[.float .f32 (pfB T d p sgn), errV (pfR T d p sgn)]) ∧ Below w.heap.size w w'
set_option maxHeartbeats 2000000 in
set_option maxRecDepth 100000 in
theorem pf32_any (T : Nat → Nat × Nat) (d : Nat) (p sgn : Int) (w : World) (hT : PTab T w) (hw : 12 < w.heap.size) (h : d < 18446744073709551616) (h0 : 0 < d) (h1 : -70 ≤ p) (h2 : p ≤ 40) :
    Calls Tryz.prog 117 #[.int .u64 d, .int .i64 p, .int .u32 sgn] w (PfPost T d p sgn w) := by
  obtain ⟨hs37, hs300, he1, he2⟩ := pfS_ge h h0 h1 h2
  obtain ⟨hb1, hb2, hb3⟩ := bitLen_facts h h0
  have hb32 := bits32_run
  have hlen := Tryz.bits_Len64 d
  rw [Int.toNat_natCast] at hlen
  have HLEN := Lib.hid (fun w => hlen w (by omega) (by omega))
  have HT := Lib.hid hT
  have HRB := Lib.hid (show pfB T d p sgn = if 64 ≤ pfS d p then (bits .or .u32 sgn 0).toNat else packB (pfM T d p sgn) (-(pfE d p - pfK T d p)) from rfl)
  have HRR := Lib.hid (show pfR T d p sgn = if 64 ≤ pfS d p then false else packE (pfM T d p sgn) (-(pfE d p - pfK T d p)) from rfl)
  have hM : pfM T d p sgn = bits .or .u32 sgn (rnd (pfU T d p / 2 ^ pfK T d p ||| pfU T d p % 2)) := rfl
  have hK : pfK T d p = natOf (decide (67108862 ≤ pfU T d p)) := rfl
  have hU : pfU T d p = usc (d * 2 ^ (64 - Lib.bitLen d)) (T (p + 348).toNat).1 (T (p + 348).toNat).2 (pfS d p).toNat := rfl
  have hE : pfE d p = min 149 (24 - (Lib.bitLen d : Int) - p * 108853 / 32768) := rfl
  have hS : pfS d p = -(pfE d p - (64 - (Lib.bitLen d : Int)) + p * 108853 / 32768 + 3) := rfl
  obtain ⟨hi, hhi⟩ : ∃ v, v = (T (p + 348).toNat).1 := ⟨_, rfl⟩
  obtain ⟨lo, hlo⟩ : ∃ v, v = (T (p + 348).toNat).2 := ⟨_, rfl⟩
  have hhb : hi < 18446744073709551616 := by rw [hhi]; exact (hT.b _).1
  have hlb : lo < 18446744073709551616 := by rw [hlo]; exact (hT.b _).2
  have HPS := Lib.hid (fun (b : Nat) (e lp : Int) (x0 x1 x2 : Value) (ty : TypeId) (w : World) (hT : PTab T w) (hb : 12 ≠ b) (ho : w.heap[b]? = some (.cells #[x0, x1, x2] ty (0, 0))) (h3 : -1000 ≤ e ∧ e ≤ 1000) (h4 : -1000 ≤ lp ∧ lp ≤ 1000) => presc_any T b e p lp x0 x1 x2 ty w hT hb ho (by omega) (by omega) h3 h4)
  rw [← hhi, ← hlo] at HPS hU
  generalize pfM T d p sgn = M at *
  generalize pfK T d p = K at *
  generalize pfU T d p = U at *
  generalize pfE d p = E at *
  generalize pfS d p = S at *
  obtain ⟨lp, hlp⟩ : ∃ lp, lp = p * 108853 / 32768 := ⟨_, rfl⟩
  have HLP := Lib.hid (fun w => l2p10_any p w (by omega) (by omega))
  rw [← hlp] at HLP hE hS
  have hlp1 : -300 ≤ lp ∧ lp ≤ 300 := by omega
  have hlp11 := hlp1.1
  have hlp12 := hlp1.2
  obtain ⟨b, hb⟩ : ∃ b, b = Lib.bitLen d := ⟨_, rfl⟩
  rw [← hb] at HLEN hE hS hU hb1 hb2 hb3
  have hmin : min 149 (24 - (b : Int) - lp) = E := hE.symm
  have HU := Lib.hid hU
  have HK := Lib.hid hK
  have HM := Lib.hid hM
  have HS := Lib.hid hS
  clear hT hlen hM hK hU hE hS hhi hlo hlp hlp1 hb
  go_enter Tryz.func117, Tryz.ntmps117
  go_wp2_with fail
  refine (HLEN.out _).mono ?_
  rintro e1 w1 ⟨rfl, rfl⟩
  go_wp2_with fail
  refine (HLP.out _).mono ?_
  rintro e1 w2 ⟨rfl, rfl⟩
  go_wp2_with fail
  refine (HPS.out w1.heap.size _ _ _ _ _ _ _ (HT.out.below (below_alloc _ _) hw) (by omega) (alloc_at _ _) (by omega) (by omega)).mono ?_
  rintro e1 w2 ⟨rfl, hu, ho⟩
  rw [← HS.out] at ho
  have c0 := obj_cell (i := 0) ho (v := .int .u64 hi) (by simp)
  have c1 := obj_cell (i := 1) ho (v := .int .u64 lo) (by simp)
  have c2 := obj_cell (i := 2) ho (v := .int .i64 S) (by simp)
  have HBe := Lib.hid ((below_alloc w1 _).trans (hu.below (Nat.le_refl _)))
  clear hu ho
  obtain ⟨s, rfl⟩ := Int.eq_ofNat_of_zero_le (show 0 ≤ S by omega)
  by_cases h64 : 64 ≤ s
  · have h64d : decide (64 ≤ s) = true := decide_eq_true h64
    have h64i : (64 : Int) ≤ (s : Int) := by omega
    have hv := HRB.out
    have hr := HRR.out
    rw [if_pos h64i] at hv hr
    have HV := Lib.hid hv
    have HR := Lib.hid hr
    clear hv hr
    go_wp2_with fail
    go_ret2
    exact ⟨by rw [HV.out, HR.out]; rfl, HBe.out⟩
  · have h64d : decide (64 ≤ s) = false := decide_eq_false h64
    have h64i : (s : Int) < 64 := by omega
    have hv := HRB.out
    have hr := HRR.out
    rw [if_neg (by omega)] at hv hr
    have HV := Lib.hid hv
    have HR := Lib.hid hr
    clear hv hr
    obtain ⟨x, hx⟩ : ∃ x, x = d * 2 ^ (64 - b) := ⟨_, rfl⟩
    have hx64 : x < 18446744073709551616 := by
      rw [hx]
      have h3 := (Nat.mul_lt_mul_right (Nat.pow_pos (n := 64 - b) (show 0 < 2 by decide))).2 hb1
      rw [← Nat.pow_add, show b + (64 - b) = 64 by omega] at h3
      exact h3
    have hxw : IntKind.u64.wrap ((d : Int) * (2 : Int) ^ (64 - b)) = (x : Int) := by
      have h3 : (d : Int) * (2 : Int) ^ (64 - b) = (x : Int) := by rw [hx]; simp
      rw [h3]; exact word_in (by omega)
    have hu := HU.out
    rw [Int.toNat_natCast, ← hx] at hu
    have hU28 : U < 268435456 := by rw [hu]; exact usc_lt hx64 hhb (by omega)
    have HSC := Lib.hid (uscale_any x w1.heap.size hi lo s w2 hx64 ⟨c0, c1, c2, hhb, hlb, by omega, by omega⟩)
    rw [← hu] at HSC
    have hk := HK.out
    have hK1 : K ≤ 1 := by rw [hk]; unfold natOf; split <;> omega
    have hk' : K = natOf (decide ((67108862 : Int) ≤ (U : Int))) := by rw [hk, decide_eq_decide.2 (show (67108862 ≤ U ↔ (67108862 : Int) ≤ (U : Int)) by omega)]
    have HBK := Lib.hid (b2int_any (decide ((67108862 : Int) ≤ (U : Int))))
    rw [← hk'] at HBK
    obtain ⟨g, hg⟩ : ∃ g, g = U / 2 ^ K := ⟨_, rfl⟩
    have hdiv : ((U : Int) / (2 : Int) ^ K) = (g : Int) := by rw [hg]; simp
    have hgU : g ≤ U := by rw [hg]; exact Nat.div_le_self _ _
    obtain ⟨y, hy⟩ : ∃ y, y = U % 2 := ⟨_, rfl⟩
    have hand := and_one (a := U) (by omega)
    rw [← hy] at hand
    have hy1 : y ≤ 1 := by omega
    obtain ⟨u, hu2⟩ : ∃ u, u = g ||| y := ⟨_, rfl⟩
    have hor := or_nat (a := g) (c := y) (by omega) (by omega)
    rw [← hu2] at hor
    have hu28 : u < 268435456 := by rw [hu2]; exact Nat.or_lt_two_pow (n := 28) (by omega) (by omega)
    have HRO := Lib.hid (fun w => round_any u w (by omega))
    obtain ⟨r, hr⟩ : ∃ r, r = rnd u := ⟨_, rfl⟩
    rw [← hr] at HRO
    have hr28 : r < 268435456 := by rw [hr]; unfold rnd; omega
    have hM := HM.out
    rw [← hg, ← hy, ← hu2, ← hr] at hM
    have hMo := hM.symm
    obtain ⟨F, hF⟩ : ∃ F : Int, F = -(E - (K : Int)) := ⟨_, rfl⟩
    rw [← hF] at HV HR
    have HP := Lib.hid (fun w => pack_any M F w (by omega) (by omega))
    rw [← HV.out, ← HR.out] at HP
    have hFo := hF.symm
    clear hx hu hk hk' hg hy hu2 hr hM hF
    go_wp2_with fail
    refine HSC.out.mono ?_
    rintro e1 w3 ⟨rfl, q, rfl⟩
    go_wp2_with fail
    refine (unmin_any _).mono ?_
    rintro e1 w3 ⟨rfl, rfl⟩
    go_wp2_with fail
    refine (HBK.out _).mono ?_
    rintro e1 w3 ⟨rfl, rfl⟩
    go_wp2_with fail
    refine (HRO.out _).mono ?_
    rintro e1 w3 ⟨rfl, rfl⟩
    go_wp2_with fail
    refine (HP.out _).mono ?_
    rintro e1 w3 ⟨rfl, rfl⟩
    go_wp2_with fail
    go_ret2
    exact ⟨rfl, HBe.out.trans (below_drewN _ _ _)⟩
end Go.Proofs.YtiebedcldbmlhaaGreatDoor.Fl
namespace Go.Proofs.YtiebedcldbmlhaaGreatDoor.Fl
open Go.RowKit
set_option linter.unusedVariables false

/-- A text's bytes as numbers. -/
def ns (s : ByteArray) : List Nat := s.data.toList.map UInt8.toNat
theorem ns_len (s : ByteArray) : (ns s).length = s.size := by unfold ns; rw [List.length_map]; rfl
theorem ns_drop (s : ByteArray) (i : Nat) (h : i < s.size) : (ns s).drop i = (s[i]'h).toNat :: (ns s).drop (i + 1) := by
  rw [List.drop_eq_getElem_cons (by rw [ns_len]; exact h)]
  congr 1
  simp [ns]
  rfl
theorem ns_end (s : ByteArray) (i : Nat) (h : s.size ≤ i) : (ns s).drop i = [] := List.drop_eq_nil_of_le (by rw [ns_len]; exact h)
theorem ns_lt (s : ByteArray) (i : Nat) (h : i < s.size) : (s[i]'h).toNat < 256 := (s[i]'h).toNat_lt
theorem ns_ext (s : ByteArray) (a b : Nat) : ns (s.extract a b) = ((ns s).take b).drop a := by
  unfold ns
  rw [ByteArray.data_extract]
  simp [List.map_drop, List.map_take, List.drop_take]
theorem ns_tail (s : ByteArray) (a : Nat) : ns (s.extract a s.size) = (ns s).drop a := by
  rw [ns_ext, List.take_of_length_le (by rw [ns_len]; exact Nat.le_refl _)]

def up (c : Nat) : Nat := if 65 ≤ c ∧ c ≤ 90 then c + 32 else c
/-- commonPrefixLenIgnoreCase -/
def cpl : List Nat → List Nat → Nat
  | x :: a, y :: b => if up x = y then cpl a b + 1 else 0
  | _, _ => 0
theorem cpl_le : ∀ (a b : List Nat), cpl a b ≤ a.length ∧ cpl a b ≤ b.length
  | [], b => by simp [cpl]
  | x :: a, [] => by simp [cpl]
  | x :: a, y :: b => by
    have := cpl_le a b
    unfold cpl
    split <;> simp <;> omega
set_option maxHeartbeats 1000000 in
set_option maxRecDepth 100000 in
theorem cpl_any (s t : ByteArray) (w : World) (hs : s.size ≤ 1000000000000) (ht : t.size ≤ 1000) :
    Calls Tryz.prog 128 #[.string s, .string t] w fun e w' => e = .returned (.int .i64 (cpl (ns s) (ns t) : Nat)) ∧ w' = w := by
  obtain ⟨z, hz⟩ : ∃ z, z = cpl (ns s) (ns t) := ⟨_, rfl⟩
  rw [← hz]
  have HZ := Lib.hid hz
  clear hz
  obtain ⟨n, hn⟩ : ∃ n, min (t.size : Int) (s.size : Int) = ((n : Nat) : Int) := ⟨min t.size s.size, by omega⟩
  have hns : n ≤ s.size := by omega
  have hnt : n ≤ t.size := by omega
  have hnn : n = s.size ∨ n = t.size := by omega
  have HNN := Lib.hid hnn
  clear hnn
  go_enter Tryz.func128, Tryz.ntmps128
  go_wp2_with fail
  go_loop [6] (fun i => ∃ k : Nat, i = .int .i64 k ∧ k ≤ n ∧ z = k + cpl ((ns s).drop k) ((ns t).drop k)) (fun i => n - (intOf i).toNat)
  case atStart => exact ⟨0, rfl, Nat.zero_le _, by rw [HZ.out]; simp⟩
  case round =>
    obtain ⟨k, rfl, hk, hzk⟩ := hrel
    by_cases hlt : k < n
    · have hks : k < s.size := Nat.lt_of_lt_of_le hlt hns
      have hkt : k < t.size := Nat.lt_of_lt_of_le hlt hnt
      rw [ns_drop s k hks, ns_drop t k hkt] at hzk
      have hx9 := ns_lt s k hks
      obtain ⟨x, hx⟩ : ∃ x : Nat, (s[k]'hks).toNat = x := ⟨_, rfl⟩
      obtain ⟨y, hy⟩ : ∃ y : Nat, (t[k]'hkt).toNat = y := ⟨_, rfl⟩
      rw [hx] at hx9 hzk
      rw [hy] at hzk
      have HK := Lib.hid hzk
      clear hzk
      by_cases hup : 65 ≤ x ∧ x ≤ 90
      · have u1 : decide ((65 : Int) ≤ (x : Int)) = true := decide_eq_true (by omega)
        have u2 : decide ((x : Int) ≤ 90) = true := decide_eq_true (by omega)
        have u3 : x ≤ 90 := hup.2
        have hu : up x = x + 32 := if_pos hup
        obtain ⟨v, hv⟩ : ∃ v, v = x + 32 := ⟨_, rfl⟩
        have hvi : (x : Int) + 32 = (v : Int) := by omega
        have hvw : IntKind.u8.wrap ((x : Int) + 32) = (v : Int) := by rw [IntWalk.u8_in _ (by omega)]; omega
        rw [← hv] at hu
        have HU := Lib.hid hu
        clear hu hv hup
        by_cases he : v = y
        · have he1 : ((v : Int) != (y : Int)) = false := by rw [he]; simp
          have HE := Lib.hid he
          clear he
          go_wp2_with fail
          go_round
          case rel => exact ⟨k + 1, by go_num, by omega, by
            have := HK.out
            rw [cpl, if_pos (HU.out.trans HE.out)] at this
            omega⟩
          case measure => simp [intOf]; omega
        · have he1 : ((v : Int) != (y : Int)) = true := by simp; omega
          have HE := Lib.hid he
          clear he
          go_wp2_with fail
          go_ret
          exact ⟨ret_int (by
            have := HK.out
            rw [cpl, if_neg (fun hh => HE.out (HU.out.symm.trans hh))] at this
            omega), rfl⟩
      · have hu : up x = x := if_neg hup
        have HU := Lib.hid hu
        clear hu
        by_cases he : x = y
        · have he1 : ((x : Int) != (y : Int)) = false := by rw [he]; simp
          have HE := Lib.hid he
          have hc : (65 ≤ x ∧ 90 < x) ∨ x < 65 := by omega
          clear he
          rcases hc with ⟨h1, h2⟩ | h1
          · have u1 : decide ((65 : Int) ≤ (x : Int)) = true := decide_eq_true (by omega)
            have u2 : decide ((x : Int) ≤ 90) = false := decide_eq_false (by omega)
            go_wp2_with fail
            go_round
            case rel => exact ⟨k + 1, by go_num, by omega, by
              have := HK.out
              rw [cpl, if_pos (HU.out.trans HE.out)] at this
              omega⟩
            case measure => simp [intOf]; omega
          · have u1 : decide ((65 : Int) ≤ (x : Int)) = false := decide_eq_false (by omega)
            go_wp2_with fail
            go_round
            case rel => exact ⟨k + 1, by go_num, by omega, by
              have := HK.out
              rw [cpl, if_pos (HU.out.trans HE.out)] at this
              omega⟩
            case measure => simp [intOf]; omega
        · have he1 : ((x : Int) != (y : Int)) = true := by simp; omega
          have HE := Lib.hid he
          have hc : (65 ≤ x ∧ 90 < x) ∨ x < 65 := by omega
          clear he
          rcases hc with ⟨h1, h2⟩ | h1
          · have u1 : decide ((65 : Int) ≤ (x : Int)) = true := decide_eq_true (by omega)
            have u2 : decide ((x : Int) ≤ 90) = false := decide_eq_false (by omega)
            go_wp2_with fail
            go_ret
            exact ⟨ret_int (by
              have := HK.out
              rw [cpl, if_neg (fun hh => HE.out (HU.out.symm.trans hh))] at this
              omega), rfl⟩
          · have u1 : decide ((65 : Int) ≤ (x : Int)) = false := decide_eq_false (by omega)
            go_wp2_with fail
            go_ret
            exact ⟨ret_int (by
              have := HK.out
              rw [cpl, if_neg (fun hh => HE.out (HU.out.symm.trans hh))] at this
              omega), rfl⟩
    · obtain rfl : k = n := by omega
      have HK := Lib.hid (show z = k by
        rcases HNN.out with h | h
        · have h1 := ns_end s k (by omega)
          rw [h1] at hzk
          simpa [cpl] using hzk
        · have h1 := ns_end t k (by omega)
          rw [h1] at hzk
          have : cpl ((ns s).drop k) [] = 0 := by cases (ns s).drop k <;> rfl
          rw [this] at hzk
          simpa using hzk)
      clear hzk
      go_wp2_with fail
      go_ret
      exact ⟨ret_int (by rw [HK.out]), rfl⟩
end Go.Proofs.YtiebedcldbmlhaaGreatDoor.Fl
