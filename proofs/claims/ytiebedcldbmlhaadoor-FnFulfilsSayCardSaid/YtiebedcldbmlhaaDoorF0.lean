/-
  Plain facts on numbers of just so many digits: zeros at the end, shifts, the cut behind the 800th digit. Conditions: none.
-/
namespace Go.Proofs.YtiebedcldbmlhaaDoor.Fl
set_option linter.unusedVariables false

theorem p10 (n : Nat) : 0 < 10 ^ n := Nat.pow_pos (by decide)
/-- The digit of a number at a place (from the right). -/
def dgt (D j : Nat) : Nat := D / 10 ^ j % 10
theorem dgt_lt (D j : Nat) : dgt D j < 10 := Nat.mod_lt _ (by decide)
theorem dgt_div (D t j : Nat) : dgt (D / 10 ^ t) j = dgt D (j + t) := by
  unfold dgt
  rw [Nat.div_div_eq_div_mul, ← Nat.pow_add, Nat.add_comm]
theorem dgt_zero (D : Nat) : dgt D 0 = D % 10 := by unfold dgt; rw [Nat.pow_zero, Nat.div_one]
/-- A number of just so many digits. -/
structure Lead (D nd : Nat) : Prop where
  one : 1 ≤ nd
  low : 10 ^ (nd - 1) ≤ D
  up : D < 10 ^ nd
theorem lead_pos {D nd : Nat} (h : Lead D nd) : 0 < D := Nat.lt_of_lt_of_le (Nat.pow_pos (by decide)) h.low
theorem lead_uniq {D a b : Nat} (h : Lead D a) (k : Lead D b) : a = b := by
  have h1 := h.one; have k1 := k.one
  rcases Nat.lt_trichotomy a b with hlt | heq | hlt
  · exfalso
    have := Nat.pow_le_pow_right (show 0 < 10 by decide) (show a ≤ b - 1 by omega)
    have := h.up; have := k.low; omega
  · exact heq
  · exfalso
    have := Nat.pow_le_pow_right (show 0 < 10 by decide) (show b ≤ a - 1 by omega)
    have := k.up; have := h.low; omega
theorem lead_scale {D nd : Nat} (h : Lead D nd) (a : Nat) : Lead (D * 10 ^ a) (nd + a) := by
  refine ⟨by have := h.one; omega, ?_, ?_⟩
  · rw [show nd + a - 1 = nd - 1 + a by have := h.one; omega, Nat.pow_add]
    exact Nat.mul_le_mul_right _ h.low
  · rw [Nat.pow_add]
    exact (Nat.mul_lt_mul_right (p10 a)).2 h.up
/-- Zeros at the end fall away. -/
theorem lead_cut {D nd m : Nat} (h : Lead D nd) (h1 : 1 ≤ m) (h2 : m ≤ nd) : Lead (D / 10 ^ (nd - m)) m := by
  refine ⟨h1, ?_, ?_⟩
  · rw [Nat.le_div_iff_mul_le (Nat.pow_pos (by decide)), ← Nat.pow_add, show m - 1 + (nd - m) = nd - 1 by omega]
    exact h.low
  · rw [Nat.div_lt_iff_lt_mul (Nat.pow_pos (by decide)), ← Nat.pow_add, show m + (nd - m) = nd by omega]
    exact h.up
theorem lead_top {D nd : Nat} (h : Lead D nd) : 1 ≤ dgt D (nd - 1) := by
  unfold dgt
  have h1 : D / 10 ^ (nd - 1) < 10 := by
    rw [Nat.div_lt_iff_lt_mul (Nat.pow_pos (by decide)), ← Nat.pow_succ', show (nd - 1).succ = nd by have := h.one; omega]
    exact h.up
  rw [Nat.mod_eq_of_lt h1, Nat.le_div_iff_mul_le (Nat.pow_pos (by decide)), Nat.one_mul]
  exact h.low
/-- How many digits a number has. -/
noncomputable def nlen (D : Nat) : Nat := open Classical in if h : ∃ n, Lead D n then Classical.choose h else 0
theorem nlen_eq {D n : Nat} (h : Lead D n) : nlen D = n := by
  unfold nlen
  rw [dif_pos ⟨n, h⟩]
  exact lead_uniq (Classical.choose_spec ⟨n, h⟩) h
theorem lead_ex : ∀ (n D : Nat), 0 < D → D < 10 ^ n → ∃ m, Lead D m ∧ m ≤ n
  | 0, D, h0, h => by simp at h; omega
  | n + 1, D, h0, h => by
    rcases Nat.lt_or_ge D (10 ^ n) with h1 | h1
    · obtain ⟨m, hm, hmn⟩ := lead_ex n D h0 h1
      exact ⟨m, hm, by omega⟩
    · exact ⟨n + 1, ⟨by omega, h1, h⟩, Nat.le_refl _⟩
theorem lt_p10 : ∀ n : Nat, n < 10 ^ n
  | 0 => by decide
  | n + 1 => by have := lt_p10 n; rw [Nat.pow_succ]; omega
theorem lead_nlen {D : Nat} (h : 0 < D) : Lead D (nlen D) := by
  obtain ⟨m, hm, _⟩ := lead_ex D D h (lt_p10 D)
  rw [nlen_eq hm]; exact hm

/-- A number of so many digits without the zeros at its end. -/
def norm : Nat → Nat → Nat × Nat
  | 0, D => (D, 0)
  | n + 1, D => if D % 10 = 0 then norm n (D / 10) else (D, n + 1)
theorem norm_zero {n D : Nat} (h : D % 10 = 0) : norm (n + 1) D = norm n (D / 10) := by rw [norm, if_pos h]
theorem norm_stop {n D : Nat} (h : D % 10 ≠ 0) : norm (n + 1) D = (D, n + 1) := by rw [norm, if_neg h]
theorem norm_scale : ∀ (a n M : Nat), norm (n + a) (M * 10 ^ a) = norm n M
  | 0, n, M => by rw [Nat.pow_zero, Nat.mul_one]; rfl
  | a + 1, n, M => by
    have e : M * 10 ^ (a + 1) = 10 * (M * 10 ^ a) := by rw [Nat.pow_succ, ← Nat.mul_assoc, Nat.mul_comm]
    rw [show n + (a + 1) = (n + a) + 1 by omega, norm_zero (by rw [e]; omega), e, show 10 * (M * 10 ^ a) / 10 = M * 10 ^ a by omega]
    exact norm_scale a n M
theorem norm_lead : ∀ (n D : Nat), Lead D n → Lead (norm n D).1 (norm n D).2 ∧ (norm n D).2 ≤ n ∧ (norm n D).1 = D / 10 ^ (n - (norm n D).2)
  | 0, D, h => absurd h.one (by decide)
  | n + 1, D, h => by
    by_cases h0 : D % 10 = 0
    · rw [norm_zero h0]
      have hn : 1 ≤ n := by
        rcases Nat.eq_zero_or_pos n with h1 | h1
        · subst h1
          have h2 := h.low; have h3 := h.up
          simp at h2 h3; omega
        · exact h1
      have h1 := lead_cut h hn (Nat.le_succ n)
      rw [show n + 1 - n = 1 by omega, Nat.pow_one] at h1
      obtain ⟨a, b, c⟩ := norm_lead n _ h1
      refine ⟨a, by omega, ?_⟩
      rw [c, Nat.div_div_eq_div_mul, ← Nat.pow_succ', show (n - (norm n (D / 10)).2).succ = n + 1 - (norm n (D / 10)).2 by omega]
    · rw [norm_stop h0]
      exact ⟨h, Nat.le_refl _, by simp⟩

/-- A decimal: its digits, how many, the point, whether something was cut off. -/
structure St where
  D : Nat
  nd : Nat
  dp : Int
  tr : Bool
/-- A number of so many digits, cut behind the 800th, without zeros at its end. -/
def cut (N L : Nat) (dp : Int) (tr : Bool) : St :=
  if 800 ≤ L then ⟨(norm 800 (N / 10 ^ (L - 800))).1, (norm 800 (N / 10 ^ (L - 800))).2, dp, tr || decide (N % 10 ^ (L - 800) ≠ 0)⟩
  else ⟨(norm L N).1, (norm L N).2, dp, tr⟩
theorem cut_scale (a M l : Nat) (dp : Int) (tr : Bool) : cut (M * 10 ^ a) (l + a) dp tr = cut M l dp tr := by
  unfold cut
  by_cases h : 800 ≤ l
  · have e1 : M * 10 ^ a / 10 ^ (l + a - 800) = M / 10 ^ (l - 800) := by
      rw [show l + a - 800 = a + (l - 800) by omega, Nat.pow_add, ← Nat.div_div_eq_div_mul, Nat.mul_div_cancel _ (p10 a)]
    have e2 : M * 10 ^ a % 10 ^ (l + a - 800) = M % 10 ^ (l - 800) * 10 ^ a := by
      rw [show l + a - 800 = (l - 800) + a by omega, Nat.pow_add, Nat.mul_mod_mul_right]
    have e3 : decide (M % 10 ^ (l - 800) * 10 ^ a ≠ 0) = decide (M % 10 ^ (l - 800) ≠ 0) := by
      apply decide_eq_decide.2
      have := p10 a
      constructor
      · intro h1 h2; exact h1 (by rw [h2, Nat.zero_mul])
      · intro h1 h2
        rcases Nat.mul_eq_zero.1 h2 with h3 | h3
        · exact h1 h3
        · omega
    rw [if_pos (by omega), if_pos h, e1, e2, e3]
  · by_cases h2 : 800 ≤ l + a
    · have e0 : M * 10 ^ a = M * 10 ^ (800 - l) * 10 ^ (l + a - 800) := by
        rw [Nat.mul_assoc, ← Nat.pow_add, show 800 - l + (l + a - 800) = a by omega]
      have e1 : M * 10 ^ a / 10 ^ (l + a - 800) = M * 10 ^ (800 - l) := by rw [e0, Nat.mul_div_cancel _ (p10 _)]
      have e2 : M * 10 ^ a % 10 ^ (l + a - 800) = 0 := by rw [e0, Nat.mul_mod_left]
      have e3 : norm 800 (M * 10 ^ (800 - l)) = norm l M := by
        have := norm_scale (800 - l) l M
        rw [show l + (800 - l) = 800 by omega] at this
        exact this
      rw [if_pos h2, if_neg h, e1, e2, e3]
      simp
    · rw [if_neg h2, if_neg h, norm_scale]
theorem cut_lead {N L : Nat} (h : Lead N L) (dp : Int) (tr : Bool) : Lead (cut N L dp tr).D (cut N L dp tr).nd ∧ (cut N L dp tr).nd ≤ 800 ∧ (cut N L dp tr).nd ≤ L ∧ (cut N L dp tr).D = N / 10 ^ (L - (cut N L dp tr).nd) ∧ (cut N L dp tr).dp = dp := by
  unfold cut
  split
  · rename_i h8
    obtain ⟨a, b, c⟩ := norm_lead 800 _ (lead_cut h (by decide) h8)
    refine ⟨a, b, Nat.le_trans b h8, ?_, rfl⟩
    show (norm 800 (N / 10 ^ (L - 800))).1 = _
    rw [c, Nat.div_div_eq_div_mul, ← Nat.pow_add]
    congr 2
    show _ = L - (norm 800 (N / 10 ^ (L - 800))).2
    omega
  · rename_i h8
    obtain ⟨a, b, c⟩ := norm_lead L _ h
    exact ⟨a, Nat.le_trans b (by omega), b, c, rfl⟩
/-- The first digit. -/
def lead (D nd : Nat) : Nat := D / 10 ^ (nd - 1)
theorem lead_range {D nd : Nat} (h : Lead D nd) : 1 ≤ lead D nd ∧ lead D nd ≤ 9 := by
  unfold lead
  constructor
  · rw [Nat.le_div_iff_mul_le (p10 _), Nat.one_mul]; exact h.low
  · have h1 : D / 10 ^ (nd - 1) < 10 := by
      rw [Nat.div_lt_iff_lt_mul (p10 _), ← Nat.pow_succ', show (nd - 1).succ = nd by have := h.one; omega]
      exact h.up
    omega
theorem cut_first {N L : Nat} (h : Lead N L) (dp : Int) (tr : Bool) : lead (cut N L dp tr).D (cut N L dp tr).nd = lead N L := by
  obtain ⟨a, b, c, d, e⟩ := cut_lead h dp tr
  have h1 := a.one
  unfold lead
  rw [d, Nat.div_div_eq_div_mul, ← Nat.pow_add, show L - (cut N L dp tr).nd + ((cut N L dp tr).nd - 1) = L - 1 by omega]
noncomputable def shl (s : St) (k : Nat) : St := cut (s.D * 2 ^ k) (nlen (s.D * 2 ^ k)) (s.dp + nlen (s.D * 2 ^ k) - s.nd) s.tr
noncomputable def shr (s : St) (k : Nat) : St := cut (s.D * 5 ^ k) (nlen (s.D * 5 ^ k)) (s.dp + nlen (s.D * 5 ^ k) - s.nd - k) s.tr

theorem div_step (D j : Nat) : D / 10 ^ j = 10 * (D / 10 ^ (j + 1)) + dgt D j := by
  unfold dgt
  rw [Nat.pow_succ, ← Nat.div_div_eq_div_mul]
  omega
theorem mod_step (D j : Nat) : D % 10 ^ (j + 1) = dgt D j * 10 ^ j + D % 10 ^ j := by
  unfold dgt
  rw [Nat.pow_succ, Nat.mod_mul, Nat.mul_comm (10 ^ j), Nat.add_comm]
theorem mod_flag (D j : Nat) : decide (D % 10 ^ (j + 1) ≠ 0) = (decide (dgt D j ≠ 0) || decide (D % 10 ^ j ≠ 0)) := by
  rw [mod_step]
  have hp := p10 j
  by_cases h : dgt D j = 0
  · rw [h, Nat.zero_mul, Nat.zero_add]; simp
  · have : dgt D j * 10 ^ j + D % 10 ^ j ≠ 0 := by
      have := Nat.mul_pos (Nat.pos_of_ne_zero h) hp
      omega
    simp [h]
    have := Nat.mul_pos (Nat.pos_of_ne_zero h) hp
    omega
theorem div_lo (D j : Nat) : D / 10 ^ j * 10 ^ j ≤ D := Nat.div_mul_le_self D _
theorem div_up (D j : Nat) : D < (D / 10 ^ j + 1) * 10 ^ j := by
  have := Nat.lt_mul_div_succ D (p10 j)
  rw [Nat.mul_comm]; exact this
end Go.Proofs.YtiebedcldbmlhaaDoor.Fl
