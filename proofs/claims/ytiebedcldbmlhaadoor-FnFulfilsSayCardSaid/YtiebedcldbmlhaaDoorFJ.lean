/-
  The small functions of the fast path: floats out of bits, packing, rounding. Conditions: exponents below 1000.
-/
import Derived.Test.YtiebedcldbmlhaaDoorFI
import Derived.Laws.FloatArith
namespace Go.Proofs.YtiebedcldbmlhaaDoor.Fl
open Go.RowKit
set_option linter.unusedVariables false

theorem bits32_run (n : Int) (w : World) : (callFunc 51 #[.int .u32 n]).run Tryd.prog w = .ok (.value (.float .f32 n.toNat)) w := by
  rw [run_callFunc_extern Tryd.func51 (by kernel_rfl) (by kernel_rfl) (by kernel_rfl) (e := Extern.MathFloatBits.float32frombits) (by rfl)]
  rfl
def errV (b : Bool) : Value := if b then .iface 66 (.int .i64 1) else .nilIface
def packB (m e : Int) : Nat := if bits .and .u32 m 8388608 == 0 then m.toNat else if 105 ≤ e then (bits .or .u32 (bits .and .u32 m 2147483648) 2139095040).toNat else (bits .or .u32 (bits .andNot .u32 m 8388608) ((150 + e) % 4294967296 * 8388608 % 4294967296)).toNat
def packE (m e : Int) : Bool := !(bits .and .u32 m 8388608 == 0) && decide (105 ≤ e)
set_option maxRecDepth 100000 in
theorem pack_any (m : Int) (e : Int) (w : World) (h1 : -1000 ≤ e) (h2 : e ≤ 1000) : Calls Tryd.prog 70 #[.int .u32 m, .int .i64 e] w fun en w' => en = .returned (.tuple #[.float .f32 (packB m e), errV (packE m e)]) ∧ w = w' := by
  have hb := bits32_run
  obtain ⟨z, hz⟩ : ∃ z, z = (bits .and .u32 m 8388608 == 0) := ⟨_, rfl⟩
  obtain ⟨vb, hvb⟩ : ∃ v, v = packB m e := ⟨_, rfl⟩
  obtain ⟨ve, hve⟩ : ∃ v, v = errV (packE m e) := ⟨_, rfl⟩
  rw [← hvb, ← hve]
  unfold packB at hvb
  unfold packE errV at hve
  rw [← hz] at hvb hve
  cases z with
  | true =>
    have hzz := hz.symm
    have HB := Lib.hid hvb
    have HE := Lib.hid hve
    clear hvb hve hz
    go_enter Tryd.func70, Tryd.ntmps70
    go_wp2_with fail
    go_ret2
    exact ⟨by rw [HB.out, HE.out]; rfl, rfl⟩
  | false =>
    have hzz := hz.symm
    by_cases h3 : 105 ≤ e
    · have h3d : decide (105 ≤ e) = true := decide_eq_true h3
      rw [h3d] at hve
      rw [if_neg (by decide), if_pos h3] at hvb
      have HB := Lib.hid hvb
      have HE := Lib.hid hve
      clear hvb hve hz
      go_enter Tryd.func70, Tryd.ntmps70
      go_wp2_with fail
      go_ret2
      exact ⟨by rw [HB.out, HE.out]; rfl, rfl⟩
    · have h3d : decide (105 ≤ e) = false := decide_eq_false h3
      rw [h3d] at hve
      rw [if_neg (by decide), if_neg h3] at hvb
      have HB := Lib.hid hvb
      have HE := Lib.hid hve
      clear hvb hve hz
      go_enter Tryd.func70, Tryd.ntmps70
      go_wp2_with fail
      go_ret2
      exact ⟨by rw [HB.out, HE.out]; rfl, rfl⟩

theorem or_nat {a c : Nat} (ha : a < 18446744073709551616) (hc : c < 18446744073709551616) : bits .or .u64 (a : Int) (c : Int) = ((a ||| c : Nat) : Int) := by
  have h1 : (BitVec.ofInt 64 (a : Int)).toNat = a := by
    rw [BitVec.ofInt_natCast, BitVec.toNat_ofNat]; exact Nat.mod_eq_of_lt (by omega)
  have h2 : (BitVec.ofInt 64 (c : Int)).toNat = c := by
    rw [BitVec.ofInt_natCast, BitVec.toNat_ofNat]; exact Nat.mod_eq_of_lt (by omega)
  show IntKind.u64.wrap ((BitVec.ofInt 64 (a : Int) ||| BitVec.ofInt 64 (c : Int)).toNat : Int) = _
  rw [BitVec.toNat_or, h1, h2]
  have h3 : a ||| c < 2 ^ 64 := Nat.or_lt_two_pow (by omega) (by omega)
  exact IntWalk.u64_in _ (by omega)
theorem and_one {a : Nat} (ha : a < 18446744073709551616) : bits .and .u64 (a : Int) 1 = ((a % 2 : Nat) : Int) := by
  have := and_mask (k := 1) ha (by decide)
  simpa using this

def rnd (u : Nat) : Nat := (u + 1 + u / 4 % 2) / 4
set_option maxRecDepth 100000 in
theorem round_any (u : Nat) (w : World) (h : u ≤ 1000000000) : Calls Tryd.prog 71 #[.int .u64 u] w fun en w' => en = .returned (.int .u64 (rnd u : Nat)) ∧ w = w' := by
  obtain ⟨q, hq⟩ : ∃ q, q = u / 4 := ⟨_, rfl⟩
  have h4 : (u : Int) / 4 = (q : Int) := by omega
  obtain ⟨x, hx⟩ : ∃ x, x = q % 2 := ⟨_, rfl⟩
  have ha : bits .and .u64 (q : Int) 1 = (x : Int) := by rw [hx]; exact and_one (by omega)
  have hx1 : x ≤ 1 := by omega
  have HR := Lib.hid (show rnd u = (u + 1 + x) / 4 by unfold rnd; rw [hx, hq])
  clear hq hx
  go_enter Tryd.func71, Tryd.ntmps71
  go_wp2_with fail
  go_ret
  exact ⟨ret_int (by rw [HR.out]; omega), rfl⟩
set_option maxRecDepth 100000 in
theorem unmin_any (w : World) : Calls Tryd.prog 69 #[.int .u64 16777216] w fun en w' => en = .returned (.int .u64 67108862) ∧ w = w' := by
  go_enter Tryd.func69, Tryd.ntmps69
  go_wp2_with fail
  go_ret
  exact ⟨rfl, rfl⟩
set_option maxRecDepth 100000 in
theorem l2p10_any (p : Int) (w : World) (h1 : -1000 ≤ p) (h2 : p ≤ 1000) : Calls Tryd.prog 65 #[.int .i64 p] w fun en w' => en = .returned (.int .i64 (p * 108853 / 32768)) ∧ w = w' := by
  go_enter Tryd.func65, Tryd.ntmps65
  go_wp2_with fail
  go_ret
  exact ⟨rfl, rfl⟩
def natOf (b : Bool) : Nat := if b then 1 else 0
theorem b2u64_any (b : Bool) (w : World) : Calls Tryd.prog 56 #[.bool b] w fun en w' => en = .returned (.int .u64 (natOf b : Nat)) ∧ w' = w := by
  cases b
  · go_enter Tryd.func56, Tryd.ntmps56
    go_wp2_with fail
    go_ret
    exact ⟨rfl, rfl⟩
  · go_enter Tryd.func56, Tryd.ntmps56
    go_wp2_with fail
    go_ret
    exact ⟨rfl, rfl⟩
theorem b2u32_any (b : Bool) (w : World) : Calls Tryd.prog 50 #[.bool b] w fun en w' => en = .returned (.int .u32 (natOf b : Nat)) ∧ w = w' := by
  cases b
  · go_enter Tryd.func50, Tryd.ntmps50
    go_wp2_with fail
    go_ret
    exact ⟨rfl, rfl⟩
  · go_enter Tryd.func50, Tryd.ntmps50
    go_wp2_with fail
    go_ret
    exact ⟨rfl, rfl⟩
theorem b2int_any (b : Bool) (w : World) : Calls Tryd.prog 68 #[.bool b] w fun en w' => en = .returned (.int .i64 (natOf b : Nat)) ∧ w = w' := by
  cases b
  · go_enter Tryd.func68, Tryd.ntmps68
    go_wp2_with fail
    go_ret
    exact ⟨rfl, rfl⟩
  · go_enter Tryd.func68, Tryd.ntmps68
    go_wp2_with fail
    go_ret
    exact ⟨rfl, rfl⟩
/-- uscale -/
def usc (x hi lo s : Nat) : Nat :=
  if x * hi / 18446744073709551616 / 2 ^ s * 2 ^ s = x * hi / 18446744073709551616 then
    ((if x * hi % 18446744073709551616 < x * lo / 18446744073709551616 then (x * hi / 18446744073709551616 + 18446744073709551615) % 18446744073709551616 else x * hi / 18446744073709551616) / 2 ^ s) |||
      natOf (decide (1 < (x * hi % 18446744073709551616 + 18446744073709551616 - x * lo / 18446744073709551616) % 18446744073709551616))
  else (x * hi / 18446744073709551616 / 2 ^ s) ||| 1
/-- A scaler in memory. -/
structure Scal (w : World) (b hi lo s : Nat) : Prop where
  c0 : w.cell? ⟨b, 0, none⟩ = some (.int .u64 hi)
  c1 : w.cell? ⟨b, 1, none⟩ = some (.int .u64 lo)
  c2 : w.cell? ⟨b, 2, none⟩ = some (.int .i64 s)
  hi : hi < 18446744073709551616
  lo : lo < 18446744073709551616
  s0 : 37 ≤ s
  s1 : s ≤ 63
theorem and63 : ∀ i : Fin 64, bits .and .i64 ((i.val : Nat) : Int) 63 = ((i.val : Nat) : Int) := by decide +kernel
set_option maxHeartbeats 1000000 in
set_option maxRecDepth 100000 in
theorem uscale_any (x b hi lo s : Nat) (w : World) (hx : x < 18446744073709551616) (h : Scal w b hi lo s) :
    Calls Tryd.prog 67 #[.int .u64 x, .pointer (some ⟨b, 0, none⟩)] w fun en w' => en = .returned (.int .u64 (usc x hi lo s : Nat)) ∧ ∃ q, w' = w.drewN q := by
  obtain ⟨z, hz⟩ : ∃ z, z = usc x hi lo s := ⟨_, rfl⟩
  rw [← hz]
  unfold usc at hz
  have c0 := h.c0
  have c1 := h.c1
  have c2 := h.c2
  have hhi := h.hi
  have hlo := h.lo
  have s0 := h.s0
  have s1 := h.s1
  have ha := and63 ⟨s, by omega⟩
  simp only at ha
  obtain ⟨A, hA⟩ : ∃ A, A = x * hi / 18446744073709551616 := ⟨_, rfl⟩
  obtain ⟨M, hM⟩ : ∃ M, M = x * hi % 18446744073709551616 := ⟨_, rfl⟩
  obtain ⟨M2, hM2⟩ : ∃ M2, M2 = x * lo / 18446744073709551616 := ⟨_, rfl⟩
  obtain ⟨M3, hM3⟩ : ∃ M3, M3 = x * lo % 18446744073709551616 := ⟨_, rfl⟩
  have hm1 := Tryd.bits_Mul64 x hi hx hhi
  have hm2 := Tryd.bits_Mul64 x lo hx hlo
  rw [← hA, ← hM] at hm1
  rw [← hM2, ← hM3] at hm2
  rw [← hA, ← hM, ← hM2] at hz
  have HM1 := Lib.hid hm1
  have HM2 := Lib.hid hm2
  have hMb : M ≤ 18446744073709551615 := by rw [hM]; omega
  have hAb : A ≤ 18446744073709551615 := by
    have h1 : x * hi ≤ 18446744073709551615 * 18446744073709551615 := Nat.mul_le_mul (by omega) (by omega)
    rw [hA]; omega
  have hM2b : M2 ≤ 18446744073709551615 := by
    have h1 : x * lo ≤ 18446744073709551615 * 18446744073709551615 := Nat.mul_le_mul (by omega) (by omega)
    rw [hM2]; omega
  obtain ⟨g, hg⟩ : ∃ g, g = A / 2 ^ s := ⟨_, rfl⟩
  have hdiv : ((A : Int) / (2 : Int) ^ s) = (g : Int) := by rw [hg]; simp
  obtain ⟨v, hv⟩ : ∃ v, v = g * 2 ^ s := ⟨_, rfl⟩
  have hvA : v ≤ A := by rw [hv, hg]; exact Nat.div_mul_le_self _ _
  have hmul : IntKind.u64.wrap ((g : Int) * (2 : Int) ^ s) = (v : Int) := by
    have h1 : (g : Int) * (2 : Int) ^ s = (v : Int) := by rw [hv]; simp
    rw [h1]; exact word_in (by omega)
  have hgA : g ≤ A := by rw [hg]; exact Nat.div_le_self _ _
  rw [← hg, ← hv] at hz
  by_cases hvA2 : v = A
  · have htest : ((v : Int) != (A : Int)) = false := by rw [hvA2]; simp
    rw [if_pos hvA2] at hz
    obtain ⟨n1, hn1⟩ : ∃ n, n = natOf (decide (M < M2)) := ⟨_, rfl⟩
    obtain ⟨A', hA'⟩ : ∃ a, a = (if M < M2 then (A + 18446744073709551615) % 18446744073709551616 else A) := ⟨_, rfl⟩
    obtain ⟨d, hd⟩ : ∃ d, d = (M + 18446744073709551616 - M2) % 18446744073709551616 := ⟨_, rfl⟩
    obtain ⟨n2, hn2⟩ : ∃ n, n = natOf (decide (1 < d)) := ⟨_, rfl⟩
    obtain ⟨g2, hg2⟩ : ∃ g, g = A' / 2 ^ s := ⟨_, rfl⟩
    rw [← hA', ← hd, ← hn2, ← hg2] at hz
    have hA'b : A' ≤ 18446744073709551615 := by rw [hA']; split <;> omega
    have hdiv2 : ((A' : Int) / (2 : Int) ^ s) = (g2 : Int) := by rw [hg2]; simp
    have hg2A : g2 ≤ A' := by rw [hg2]; exact Nat.div_le_self _ _
    have hsub : IntKind.u64.wrap ((A : Int) - (n1 : Int)) = (A' : Int) := by
      rw [hn1, hA']
      unfold natOf
      by_cases hlt : M < M2
      · rw [decide_eq_true hlt, if_pos hlt]
        show IntKind.u64.wrap ((A : Int) - ((1 : Nat) : Int)) = _
        rcases Nat.eq_zero_or_pos A with h0 | h0
        · rw [h0]; decide
        · rw [IntWalk.u64_in _ (by omega)]; omega
      · rw [decide_eq_false hlt, if_neg hlt]
        show IntKind.u64.wrap ((A : Int) - ((0 : Nat) : Int)) = _
        rw [IntWalk.u64_in _ (by omega)]; omega
    have hdif : IntKind.u64.wrap ((M : Int) - (M2 : Int)) = (d : Int) := by
      rw [hd]
      have e : IntKind.u64.wrap ((M : Int) - (M2 : Int)) = ((M : Int) - (M2 : Int)) % 18446744073709551616 := by
        simp [IntKind.wrap, IntKind.bits, IntKind.signed]
      rw [e]
      omega
    have hn2b : n2 ≤ 1 := by rw [hn2]; unfold natOf; split <;> omega
    have hor := or_nat (a := g2) (c := n2) (by omega) (by omega)
    have HB1 := Lib.hid (b2u64_any (decide (M < M2)))
    rw [← hn1] at HB1
    have HN2 := Lib.hid hn2
    have HZ := Lib.hid hz
    clear hm1 hm2 hA hM hM2 hM3 h hz hg hv hn1 hA' hd hn2 hg2
    go_enter Tryd.func67, Tryd.ntmps67
    go_wp2_with fail
    refine (HM1.out _).mono ?_
    rintro e1 w1 ⟨rfl, rfl⟩
    go_wp2_with fail
    refine (HM2.out _).mono ?_
    rintro e1 w1 ⟨rfl, rfl⟩
    go_wp2_with fail
    refine (HB1.out _).mono ?_
    rintro e1 w1 ⟨rfl, rfl⟩
    go_wp2_with fail
    go_quiet ((go_at_call 56; exact Calls.quiet_of_same (b2u64_any _ _)))
    go_wp2_with fail
    go_ret
    have hdd : decide ((1 : Int) < (d : Int)) = decide (1 < d) := decide_eq_decide.2 (by omega)
    exact ⟨ret_int (by rw [HZ.out, hdd, ← HN2.out]; exact hor), _, rfl⟩
  · have htest : ((v : Int) != (A : Int)) = true := by simp; omega
    rw [if_neg hvA2] at hz
    have hor := or_nat (a := g) (c := 1) (by omega) (by decide)
    have HZ := Lib.hid hz
    clear hm1 hm2 hA hM hM2 hM3 h hz hg hv
    go_enter Tryd.func67, Tryd.ntmps67
    go_wp2_with fail
    refine (HM1.out _).mono ?_
    rintro e1 w1 ⟨rfl, rfl⟩
    go_wp2_with fail
    go_ret
    exact ⟨ret_int (by rw [HZ.out]; exact hor), 0, rfl⟩
end Go.Proofs.YtiebedcldbmlhaaDoor.Fl
