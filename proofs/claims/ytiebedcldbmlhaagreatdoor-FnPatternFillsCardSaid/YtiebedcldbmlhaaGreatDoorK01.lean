/-
  Joined: Plain facts on numbers of just so many digits: zeros at the end, shifts, the cut behind the 800th digit; The slow path's steps as plain functions and relations: what a shift does to the point and the first digit; the two loops that bring a decimal into the range from a half to one; What readFloat and the decimal's set read, as plain functions over lists of numbers; How large an exponent readFloat tells; what atofHex computes, as plain functions.
  Conditions: each law's own.
-/

namespace Go.Proofs.YtiebedcldbmlhaaGreatDoor.Fl
set_option linter.unusedVariables false

theorem p10 (n : Nat) : 0 < 10 ^ n := Nat.pow_pos (by decide)
/-- The digit of a number at a place (from the right). -/
def dgt (D j : Nat) : Nat := D / 10 ^ j % 10
theorem dgt_lt (D j : Nat) : dgt D j < 10 := Nat.mod_lt _ (by decide)
theorem dgt_div (D t j : Nat) : dgt (D / 10 ^ t) j = dgt D (j + t) := by
  unfold dgt
  rw [Nat.div_div_eq_div_mul, ← Nat.pow_add, Nat.add_comm]
theorem dgt_zero (D : Nat) : dgt D 0 = D % 10 := by unfold dgt; rw [Nat.pow_zero, Nat.div_one]
/-- A number of just so many digits. -/
structure Lead (D nd : Nat) : Prop where
  one : 1 ≤ nd
  low : 10 ^ (nd - 1) ≤ D
  up : D < 10 ^ nd
theorem lead_pos {D nd : Nat} (h : Lead D nd) : 0 < D := Nat.lt_of_lt_of_le (Nat.pow_pos (by decide)) h.low
theorem lead_uniq {D a b : Nat} (h : Lead D a) (k : Lead D b) : a = b := by
  have h1 := h.one; have k1 := k.one
  rcases Nat.lt_trichotomy a b with hlt | heq | hlt
  · exfalso
    have := Nat.pow_le_pow_right (show 0 < 10 by decide) (show a ≤ b - 1 by omega)
    have := h.up; have := k.low; omega
  · exact heq
  · exfalso
    have := Nat.pow_le_pow_right (show 0 < 10 by decide) (show b ≤ a - 1 by omega)
    have := k.up; have := h.low; omega
theorem lead_scale {D nd : Nat} (h : Lead D nd) (a : Nat) : Lead (D * 10 ^ a) (nd + a) := by
  refine ⟨by have := h.one; omega, ?_, ?_⟩
  · rw [show nd + a - 1 = nd - 1 + a by have := h.one; omega, Nat.pow_add]
    exact Nat.mul_le_mul_right _ h.low
  · rw [Nat.pow_add]
    exact (Nat.mul_lt_mul_right (p10 a)).2 h.up
/-- Zeros at the end fall away. -/
theorem lead_cut {D nd m : Nat} (h : Lead D nd) (h1 : 1 ≤ m) (h2 : m ≤ nd) : Lead (D / 10 ^ (nd - m)) m := by
  refine ⟨h1, ?_, ?_⟩
  · rw [Nat.le_div_iff_mul_le (Nat.pow_pos (by decide)), ← Nat.pow_add, show m - 1 + (nd - m) = nd - 1 by omega]
    exact h.low
  · rw [Nat.div_lt_iff_lt_mul (Nat.pow_pos (by decide)), ← Nat.pow_add, show m + (nd - m) = nd by omega]
    exact h.up
theorem lead_top {D nd : Nat} (h : Lead D nd) : 1 ≤ dgt D (nd - 1) := by
  unfold dgt
  have h1 : D / 10 ^ (nd - 1) < 10 := by
    rw [Nat.div_lt_iff_lt_mul (Nat.pow_pos (by decide)), ← Nat.pow_succ', show (nd - 1).succ = nd by have := h.one; omega]
    exact h.up
  rw [Nat.mod_eq_of_lt h1, Nat.le_div_iff_mul_le (Nat.pow_pos (by decide)), Nat.one_mul]
  exact h.low
/-- How many digits a number has. -/
noncomputable def nlen (D : Nat) : Nat := open Classical in if h : ∃ n, Lead D n then Classical.choose h else 0
theorem nlen_eq {D n : Nat} (h : Lead D n) : nlen D = n := by
  unfold nlen
  rw [dif_pos ⟨n, h⟩]
  exact lead_uniq (Classical.choose_spec ⟨n, h⟩) h
theorem lead_ex : ∀ (n D : Nat), 0 < D → D < 10 ^ n → ∃ m, Lead D m ∧ m ≤ n
  | 0, D, h0, h => by simp at h; omega
  | n + 1, D, h0, h => by
    rcases Nat.lt_or_ge D (10 ^ n) with h1 | h1
    · obtain ⟨m, hm, hmn⟩ := lead_ex n D h0 h1
      exact ⟨m, hm, by omega⟩
    · exact ⟨n + 1, ⟨by omega, h1, h⟩, Nat.le_refl _⟩
theorem lt_p10 : ∀ n : Nat, n < 10 ^ n
  | 0 => by decide
  | n + 1 => by have := lt_p10 n; rw [Nat.pow_succ]; omega
theorem lead_nlen {D : Nat} (h : 0 < D) : Lead D (nlen D) := by
  obtain ⟨m, hm, _⟩ := lead_ex D D h (lt_p10 D)
  rw [nlen_eq hm]; exact hm

/-- A number of so many digits without the zeros at its end. -/
def norm : Nat → Nat → Nat × Nat
  | 0, D => (D, 0)
  | n + 1, D => if D % 10 = 0 then norm n (D / 10) else (D, n + 1)
theorem norm_zero {n D : Nat} (h : D % 10 = 0) : norm (n + 1) D = norm n (D / 10) := by rw [norm, if_pos h]
theorem norm_stop {n D : Nat} (h : D % 10 ≠ 0) : norm (n + 1) D = (D, n + 1) := by rw [norm, if_neg h]
theorem norm_scale : ∀ (a n M : Nat), norm (n + a) (M * 10 ^ a) = norm n M
  | 0, n, M => by rw [Nat.pow_zero, Nat.mul_one]; rfl
  | a + 1, n, M => by
    have e : M * 10 ^ (a + 1) = 10 * (M * 10 ^ a) := by rw [Nat.pow_succ, ← Nat.mul_assoc, Nat.mul_comm]
    rw [show n + (a + 1) = (n + a) + 1 by omega, norm_zero (by rw [e]; omega), e, show 10 * (M * 10 ^ a) / 10 = M * 10 ^ a by omega]
    exact norm_scale a n M
theorem norm_lead : ∀ (n D : Nat), Lead D n → Lead (norm n D).1 (norm n D).2 ∧ (norm n D).2 ≤ n ∧ (norm n D).1 = D / 10 ^ (n - (norm n D).2)
  | 0, D, h => absurd h.one (by decide)
  | n + 1, D, h => by
    by_cases h0 : D % 10 = 0
    · rw [norm_zero h0]
      have hn : 1 ≤ n := by
        rcases Nat.eq_zero_or_pos n with h1 | h1
        · subst h1
          have h2 := h.low; have h3 := h.up
          simp at h2 h3; omega
        · exact h1
      have h1 := lead_cut h hn (Nat.le_succ n)
      rw [show n + 1 - n = 1 by omega, Nat.pow_one] at h1
      obtain ⟨a, b, c⟩ := norm_lead n _ h1
      refine ⟨a, by omega, ?_⟩
      rw [c, Nat.div_div_eq_div_mul, ← Nat.pow_succ', show (n - (norm n (D / 10)).2).succ = n + 1 - (norm n (D / 10)).2 by omega]
    · rw [norm_stop h0]
      exact ⟨h, Nat.le_refl _, by simp⟩

/-- A decimal: its digits, how many, the point, whether something was cut off. -/
structure St where
  D : Nat
  nd : Nat
  dp : Int
  tr : Bool
/-- A number of so many digits, cut behind the 800th, without zeros at its end. -/
def cut (N L : Nat) (dp : Int) (tr : Bool) : St :=
  if 800 ≤ L then ⟨(norm 800 (N / 10 ^ (L - 800))).1, (norm 800 (N / 10 ^ (L - 800))).2, dp, tr || decide (N % 10 ^ (L - 800) ≠ 0)⟩
  else ⟨(norm L N).1, (norm L N).2, dp, tr⟩
theorem cut_scale (a M l : Nat) (dp : Int) (tr : Bool) : cut (M * 10 ^ a) (l + a) dp tr = cut M l dp tr := by
  unfold cut
  by_cases h : 800 ≤ l
  · have e1 : M * 10 ^ a / 10 ^ (l + a - 800) = M / 10 ^ (l - 800) := by
      rw [show l + a - 800 = a + (l - 800) by omega, Nat.pow_add, ← Nat.div_div_eq_div_mul, Nat.mul_div_cancel _ (p10 a)]
    have e2 : M * 10 ^ a % 10 ^ (l + a - 800) = M % 10 ^ (l - 800) * 10 ^ a := by
      rw [show l + a - 800 = (l - 800) + a by omega, Nat.pow_add, Nat.mul_mod_mul_right]
    have e3 : decide (M % 10 ^ (l - 800) * 10 ^ a ≠ 0) = decide (M % 10 ^ (l - 800) ≠ 0) := by
      apply decide_eq_decide.2
      have := p10 a
      constructor
      · intro h1 h2; exact h1 (by rw [h2, Nat.zero_mul])
      · intro h1 h2
        rcases Nat.mul_eq_zero.1 h2 with h3 | h3
        · exact h1 h3
        · omega
    rw [if_pos (by omega), if_pos h, e1, e2, e3]
  · by_cases h2 : 800 ≤ l + a
    · have e0 : M * 10 ^ a = M * 10 ^ (800 - l) * 10 ^ (l + a - 800) := by
        rw [Nat.mul_assoc, ← Nat.pow_add, show 800 - l + (l + a - 800) = a by omega]
      have e1 : M * 10 ^ a / 10 ^ (l + a - 800) = M * 10 ^ (800 - l) := by rw [e0, Nat.mul_div_cancel _ (p10 _)]
      have e2 : M * 10 ^ a % 10 ^ (l + a - 800) = 0 := by rw [e0, Nat.mul_mod_left]
      have e3 : norm 800 (M * 10 ^ (800 - l)) = norm l M := by
        have := norm_scale (800 - l) l M
        rw [show l + (800 - l) = 800 by omega] at this
        exact this
      rw [if_pos h2, if_neg h, e1, e2, e3]
      simp
    · rw [if_neg h2, if_neg h, norm_scale]
theorem cut_lead {N L : Nat} (h : Lead N L) (dp : Int) (tr : Bool) : Lead (cut N L dp tr).D (cut N L dp tr).nd ∧ (cut N L dp tr).nd ≤ 800 ∧ (cut N L dp tr).nd ≤ L ∧ (cut N L dp tr).D = N / 10 ^ (L - (cut N L dp tr).nd) ∧ (cut N L dp tr).dp = dp := by
  unfold cut
  split
  · rename_i h8
    obtain ⟨a, b, c⟩ := norm_lead 800 _ (lead_cut h (by decide) h8)
    refine ⟨a, b, Nat.le_trans b h8, ?_, rfl⟩
    show (norm 800 (N / 10 ^ (L - 800))).1 = _
    rw [c, Nat.div_div_eq_div_mul, ← Nat.pow_add]
    congr 2
    show _ = L - (norm 800 (N / 10 ^ (L - 800))).2
    omega
  · rename_i h8
    obtain ⟨a, b, c⟩ := norm_lead L _ h
    exact ⟨a, Nat.le_trans b (by omega), b, c, rfl⟩
/-- The first digit. -/
def lead (D nd : Nat) : Nat := D / 10 ^ (nd - 1)
theorem lead_range {D nd : Nat} (h : Lead D nd) : 1 ≤ lead D nd ∧ lead D nd ≤ 9 := by
  unfold lead
  constructor
  · rw [Nat.le_div_iff_mul_le (p10 _), Nat.one_mul]; exact h.low
  · have h1 : D / 10 ^ (nd - 1) < 10 := by
      rw [Nat.div_lt_iff_lt_mul (p10 _), ← Nat.pow_succ', show (nd - 1).succ = nd by have := h.one; omega]
      exact h.up
    omega
theorem cut_first {N L : Nat} (h : Lead N L) (dp : Int) (tr : Bool) : lead (cut N L dp tr).D (cut N L dp tr).nd = lead N L := by
  obtain ⟨a, b, c, d, e⟩ := cut_lead h dp tr
  have h1 := a.one
  unfold lead
  rw [d, Nat.div_div_eq_div_mul, ← Nat.pow_add, show L - (cut N L dp tr).nd + ((cut N L dp tr).nd - 1) = L - 1 by omega]
noncomputable def shl (s : St) (k : Nat) : St := cut (s.D * 2 ^ k) (nlen (s.D * 2 ^ k)) (s.dp + nlen (s.D * 2 ^ k) - s.nd) s.tr
noncomputable def shr (s : St) (k : Nat) : St := cut (s.D * 5 ^ k) (nlen (s.D * 5 ^ k)) (s.dp + nlen (s.D * 5 ^ k) - s.nd - k) s.tr

theorem div_step (D j : Nat) : D / 10 ^ j = 10 * (D / 10 ^ (j + 1)) + dgt D j := by
  unfold dgt
  rw [Nat.pow_succ, ← Nat.div_div_eq_div_mul]
  omega
theorem mod_step (D j : Nat) : D % 10 ^ (j + 1) = dgt D j * 10 ^ j + D % 10 ^ j := by
  unfold dgt
  rw [Nat.pow_succ, Nat.mod_mul, Nat.mul_comm (10 ^ j), Nat.add_comm]
theorem mod_flag (D j : Nat) : decide (D % 10 ^ (j + 1) ≠ 0) = (decide (dgt D j ≠ 0) || decide (D % 10 ^ j ≠ 0)) := by
  rw [mod_step]
  have hp := p10 j
  by_cases h : dgt D j = 0
  · rw [h, Nat.zero_mul, Nat.zero_add]; simp
  · have : dgt D j * 10 ^ j + D % 10 ^ j ≠ 0 := by
      have := Nat.mul_pos (Nat.pos_of_ne_zero h) hp
      omega
    simp [h]
    have := Nat.mul_pos (Nat.pos_of_ne_zero h) hp
    omega
theorem div_lo (D j : Nat) : D / 10 ^ j * 10 ^ j ≤ D := Nat.div_mul_le_self D _
theorem div_up (D j : Nat) : D < (D / 10 ^ j + 1) * 10 ^ j := by
  have := Nat.lt_mul_div_succ D (p10 j)
  rw [Nat.mul_comm]; exact this
end Go.Proofs.YtiebedcldbmlhaaGreatDoor.Fl
namespace Go.Proofs.YtiebedcldbmlhaaGreatDoor.Fl
set_option linter.unusedVariables false

/-- A decimal that is none of the odd ones. -/
structure Ok (s : St) : Prop where
  lead : Lead s.D s.nd
  le : s.nd ≤ 800
theorem two_ten (k : Nat) : 2 ^ k * 5 ^ k = 10 ^ k := by rw [← Nat.mul_pow]
theorem shr_ok {s : St} (h : Ok s) (k : Nat) : Ok (shr s k) := by
  have hN0 : 0 < s.D * 5 ^ k := Nat.mul_pos (lead_pos h.lead) (Nat.pow_pos (by decide))
  have := cut_lead (lead_nlen hN0) (s.dp + nlen (s.D * 5 ^ k) - s.nd - k) s.tr
  exact ⟨this.1, this.2.1⟩
theorem shl_ok {s : St} (h : Ok s) (k : Nat) : Ok (shl s k) := by
  have hN0 : 0 < s.D * 2 ^ k := Nat.mul_pos (lead_pos h.lead) (Nat.pow_pos (by decide))
  have := cut_lead (lead_nlen hN0) (s.dp + nlen (s.D * 2 ^ k) - s.nd) s.tr
  exact ⟨this.1, this.2.1⟩
/-- A shift to the right moves the point to the left. -/
theorem shr_dp {s : St} (h : Ok s) {k d : Nat} (hd : 10 ^ d ≤ 2 ^ k) : (shr s k).dp ≤ s.dp - d ∧ s.dp - k ≤ (shr s k).dp := by
  have hN0 : 0 < s.D * 5 ^ k := Nat.mul_pos (lead_pos h.lead) (Nat.pow_pos (by decide))
  have hL := lead_nlen hN0
  have e := (cut_lead hL (s.dp + nlen (s.D * 5 ^ k) - s.nd - k) s.tr).2.2.2.2
  have e' : (shr s k).dp = s.dp + nlen (s.D * 5 ^ k) - s.nd - k := e
  rw [e']
  generalize nlen (s.D * 5 ^ k) = L at *
  have hdk : d ≤ k := by
    rcases Nat.lt_or_ge k d with h1 | h1
    · exfalso
      have h2 : 10 ^ (k + 1) ≤ 10 ^ d := Nat.pow_le_pow_right (by decide) h1
      have h3 : 2 ^ k ≤ 10 ^ k := Nat.pow_le_pow_left (by decide) k
      have h4 := p10 k
      rw [Nat.pow_succ] at h2
      omega
    · exact h1
  have up : s.D * 5 ^ k < 10 ^ (s.nd + (k - d)) := by
    have h1 : 5 ^ k ≤ 10 ^ (k - d) := by
      have h2 : 10 ^ d * 5 ^ k ≤ 10 ^ d * 10 ^ (k - d) := by
        rw [← Nat.pow_add, show d + (k - d) = k by omega, (two_ten k).symm]
        exact Nat.mul_le_mul_right _ hd
      exact Nat.le_of_mul_le_mul_left h2 (p10 d)
    rw [Nat.pow_add]
    exact Nat.lt_of_lt_of_le ((Nat.mul_lt_mul_right (Nat.pow_pos (by decide))).2 h.lead.up) (Nat.mul_le_mul_left _ h1)
  have hLup : L ≤ s.nd + (k - d) := by
    rcases Nat.lt_or_ge (s.nd + (k - d)) L with h1 | h1
    · exfalso
      have h2 := hL.low
      have h3 := Nat.pow_le_pow_right (show 0 < 10 by decide) (show s.nd + (k - d) ≤ L - 1 by omega)
      omega
    · exact h1
  have hLlo : s.nd ≤ L := by
    rcases Nat.lt_or_ge L s.nd with h1 | h1
    · exfalso
      have h2 := hL.up
      have h3 := Nat.pow_le_pow_right (show 0 < 10 by decide) (show L ≤ s.nd - 1 by omega)
      have h4 := h.lead.low
      have h5 : s.D * 1 ≤ s.D * 5 ^ k := Nat.mul_le_mul_left _ (Nat.pow_pos (by decide))
      omega
    · exact h1
  omega
/-- A shift to the right that leaves the point where it is divides the first digit. -/
theorem shr_same {s : St} (h : Ok s) {k : Nat} (hd : (shr s k).dp = s.dp) : lead (shr s k).D (shr s k).nd = lead s.D s.nd / 2 ^ k := by
  have hN0 : 0 < s.D * 5 ^ k := Nat.mul_pos (lead_pos h.lead) (Nat.pow_pos (by decide))
  have hL := lead_nlen hN0
  have e := (cut_lead hL (s.dp + nlen (s.D * 5 ^ k) - s.nd - k) s.tr).2.2.2.2
  have e' : (shr s k).dp = s.dp + nlen (s.D * 5 ^ k) - s.nd - k := e
  have e2 : lead (shr s k).D (shr s k).nd = lead (s.D * 5 ^ k) (nlen (s.D * 5 ^ k)) := cut_first hL _ _
  rw [e2]
  generalize nlen (s.D * 5 ^ k) = L at *
  have hLk : L = s.nd + k := by omega
  unfold lead
  have h1 := h.lead.one
  rw [hLk, Nat.div_div_eq_div_mul, show s.nd + k - 1 = (s.nd - 1) + k by omega, Nat.pow_add, ← two_ten k, ← Nat.mul_assoc]
  exact Nat.mul_div_mul_right _ _ (Nat.pow_pos (by decide))
theorem shl_dp {s : St} (h : Ok s) {k d : Nat} (hd : 2 ^ k ≤ 10 ^ d) : (shl s k).dp ≤ s.dp + d ∧ s.dp ≤ (shl s k).dp := by
  have hN0 : 0 < s.D * 2 ^ k := Nat.mul_pos (lead_pos h.lead) (Nat.pow_pos (by decide))
  have hL := lead_nlen hN0
  have e := (cut_lead hL (s.dp + nlen (s.D * 2 ^ k) - s.nd) s.tr).2.2.2.2
  have e' : (shl s k).dp = s.dp + nlen (s.D * 2 ^ k) - s.nd := e
  rw [e']
  generalize nlen (s.D * 2 ^ k) = L at *
  have up : s.D * 2 ^ k < 10 ^ (s.nd + d) := by
    rw [Nat.pow_add]
    exact Nat.lt_of_lt_of_le ((Nat.mul_lt_mul_right (Nat.pow_pos (by decide))).2 h.lead.up) (Nat.mul_le_mul_left _ hd)
  have hLup : L ≤ s.nd + d := by
    rcases Nat.lt_or_ge (s.nd + d) L with h1 | h1
    · exfalso
      have h2 := hL.low
      have h3 := Nat.pow_le_pow_right (show 0 < 10 by decide) (show s.nd + d ≤ L - 1 by omega)
      omega
    · exact h1
  have hLlo : s.nd ≤ L := by
    rcases Nat.lt_or_ge L s.nd with h1 | h1
    · exfalso
      have h2 := hL.up
      have h3 := Nat.pow_le_pow_right (show 0 < 10 by decide) (show L ≤ s.nd - 1 by omega)
      have h4 := h.lead.low
      have h5 : s.D * 1 ≤ s.D * 2 ^ k := Nat.mul_le_mul_left _ (Nat.pow_pos (by decide))
      omega
    · exact h1
  omega
theorem shl_half {s : St} (h : Ok s) (h5 : lead s.D s.nd < 5) : (shl s 1).dp = s.dp := by
  have hN0 : 0 < s.D * 2 ^ 1 := Nat.mul_pos (lead_pos h.lead) (Nat.pow_pos (by decide))
  have hL := lead_nlen hN0
  have e := (cut_lead hL (s.dp + nlen (s.D * 2 ^ 1) - s.nd) s.tr).2.2.2.2
  have e' : (shl s 1).dp = s.dp + nlen (s.D * 2 ^ 1) - s.nd := e
  have hl : Lead (s.D * 2 ^ 1) s.nd := by
    refine ⟨h.lead.one, by have := h.lead.low; omega, ?_⟩
    unfold lead at h5
    rw [Nat.div_lt_iff_lt_mul (p10 _)] at h5
    have h1 := h.lead.one
    have h2 : 10 ^ s.nd = 10 ^ (s.nd - 1) * 10 := by rw [← Nat.pow_succ, show (s.nd - 1).succ = s.nd by omega]
    omega
  rw [e', nlen_eq hl]
  omega
theorem shl_same {s : St} (h : Ok s) {k : Nat} (hk : 1 ≤ k) (hd : (shl s k).dp = s.dp) : lead s.D s.nd < lead (shl s k).D (shl s k).nd := by
  have hN0 : 0 < s.D * 2 ^ k := Nat.mul_pos (lead_pos h.lead) (Nat.pow_pos (by decide))
  have hL := lead_nlen hN0
  have e := (cut_lead hL (s.dp + nlen (s.D * 2 ^ k) - s.nd) s.tr).2.2.2.2
  have e' : (shl s k).dp = s.dp + nlen (s.D * 2 ^ k) - s.nd := e
  have e2 : lead (shl s k).D (shl s k).nd = lead (s.D * 2 ^ k) (nlen (s.D * 2 ^ k)) := cut_first hL _ _
  rw [e2]
  generalize nlen (s.D * 2 ^ k) = L at *
  have hLk : L = s.nd := by omega
  subst hLk
  have h1 := (lead_range h.lead).1
  unfold lead at h1 ⊢
  have h3 : 2 * (s.D / 10 ^ (s.nd - 1)) ≤ s.D * 2 ^ k / 10 ^ (s.nd - 1) := by
    rw [Nat.le_div_iff_mul_le (p10 _)]
    have h2 : 2 ^ 1 ≤ 2 ^ k := Nat.pow_le_pow_right (by decide) hk
    calc 2 * (s.D / 10 ^ (s.nd - 1)) * 10 ^ (s.nd - 1) = 2 * (s.D / 10 ^ (s.nd - 1) * 10 ^ (s.nd - 1)) := Nat.mul_assoc ..
      _ ≤ 2 * s.D := Nat.mul_le_mul_left _ (div_lo _ _)
      _ = s.D * 2 := Nat.mul_comm ..
      _ ≤ s.D * 2 ^ k := Nat.mul_le_mul_left _ h2
  omega

/-- The table of shifts. -/
def tab (d : Nat) : Nat := [1, 3, 6, 9, 13, 16, 19, 23, 26].getD d 27
theorem tab_le (d : Nat) : 1 ≤ tab d ∧ tab d ≤ 27 := by
  unfold tab
  rcases Nat.lt_or_ge d 9 with h | h
  · have : ∀ d : Fin 9, 1 ≤ [1, 3, 6, 9, 13, 16, 19, 23, 26].getD d.val 27 ∧ [1, 3, 6, 9, 13, 16, 19, 23, 26].getD d.val 27 ≤ 27 := by decide
    exact this ⟨d, h⟩
  · rw [List.getD_eq_getElem?_getD, List.getElem?_eq_none (by simpa using h)]; decide
theorem tab_big {d : Nat} (h : 9 ≤ d) : tab d = 27 := by
  unfold tab; rw [List.getD_eq_getElem?_getD, List.getElem?_eq_none (by simpa using h)]; rfl
/-- The shift at so many digits is less than so many digits and, from two on, more than one less. -/
theorem tab_up : ∀ d, 1 ≤ d → 2 ^ tab d ≤ 10 ^ d := by
  intro d h1
  rcases Nat.lt_or_ge d 9 with h | h
  · have : ∀ d : Fin 9, 1 ≤ d.val → 2 ^ tab d.val ≤ 10 ^ d.val := by decide
    exact this ⟨d, h⟩ h1
  · rw [tab_big h]
    exact Nat.le_trans (show 2 ^ 27 ≤ 10 ^ 9 by decide) (Nat.pow_le_pow_right (by decide) h)
theorem tab_lo : ∀ d, 2 ≤ d → 10 ^ 1 ≤ 2 ^ tab d := by
  intro d h1
  rcases Nat.lt_or_ge d 9 with h | h
  · have : ∀ d : Fin 9, 2 ≤ d.val → 10 ^ 1 ≤ 2 ^ tab d.val := by decide
    exact this ⟨d, h⟩ h1
  · rw [tab_big h]; decide

inductive Down : St → Int → St → Int → Prop
  | stop {s : St} {e : Int} : s.dp ≤ 0 → Down s e s e
  | step {s : St} {e : Int} {a : St} {b : Int} : 0 < s.dp → Down (shr s (tab s.dp.toNat)) (e + tab s.dp.toNat) a b → Down s e a b
def Low (s : St) : Prop := s.dp < 0 ∨ (s.dp = 0 ∧ lead s.D s.nd < 5)
inductive Up : St → Int → St → Int → Prop
  | stop {s : St} {e : Int} : ¬ Low s → Up s e s e
  | step {s : St} {e : Int} {a : St} {b : Int} : Low s → Up (shl s (tab (-s.dp).toNat)) (e - tab (-s.dp).toNat) a b → Up s e a b
theorem Down.uniq {s : St} {e : Int} {a : St} {b : Int} (h : Down s e a b) : ∀ {a' : St} {b' : Int}, Down s e a' b' → a = a' ∧ b = b' := by
  induction h with
  | stop h0 =>
    intro a' b' k
    cases k with
    | stop _ => exact ⟨rfl, rfl⟩
    | step h1 _ => omega
  | step h0 _ ih =>
    intro a' b' k
    cases k with
    | stop h1 => omega
    | step _ k => exact ih k
theorem Up.uniq {s : St} {e : Int} {a : St} {b : Int} (h : Up s e a b) : ∀ {a' : St} {b' : Int}, Up s e a' b' → a = a' ∧ b = b' := by
  induction h with
  | stop h0 =>
    intro a' b' k
    cases k with
    | stop _ => exact ⟨rfl, rfl⟩
    | step h1 _ => exact absurd h1 h0
  | step h0 _ ih =>
    intro a' b' k
    cases k with
    | stop h1 => exact absurd h0 h1
    | step _ k => exact ih k
/-- What a round of the first loop does. -/
def mDown (s : St) : Int := 10 * s.dp + lead s.D s.nd
theorem down_step {s : St} (h : Ok s) (hdp : 0 < s.dp) : mDown (shr s (tab s.dp.toNat)) < mDown s ∧ (shr s (tab s.dp.toNat)).dp ≤ s.dp ∧ -27 ≤ (shr s (tab s.dp.toNat)).dp := by
  obtain ⟨j, hj⟩ : ∃ j, j = s.dp.toNat := ⟨_, rfl⟩
  rw [← hj]
  have hk := tab_le j
  have h0 := shr_dp h (k := tab j) (d := 0) (Nat.pow_pos (by decide))
  have l1 := lead_range h.lead
  have l2 := lead_range (shr_ok h (tab j)).lead
  unfold mDown
  refine ⟨?_, by omega, by omega⟩
  by_cases he : (shr s (tab j)).dp = s.dp
  · by_cases h1 : j = 1
    · have h2 := shr_same h he
      have h3 : lead s.D s.nd / 2 ^ tab j < lead s.D s.nd := by
        rw [h1]
        exact Nat.div_lt_self (by omega) (by decide)
      omega
    · have := shr_dp h (tab_lo j (by omega))
      omega
  · omega
theorem down_dp0 {s : St} (h : Ok s) (hdp : 0 < s.dp) : s.dp - 27 ≤ (shr s (tab s.dp.toNat)).dp := by
  have hk := tab_le s.dp.toNat
  have h0 := shr_dp h (k := tab s.dp.toNat) (d := 0) (Nat.pow_pos (by decide))
  omega
def mUp (s : St) : Int := -10 * s.dp + 10 - lead s.D s.nd
theorem up_step {s : St} (h : Ok s) (hdp : s.dp ≤ 0) (hl : Low s) : mUp (shl s (tab (-s.dp).toNat)) < mUp s ∧ (shl s (tab (-s.dp).toNat)).dp ≤ 0 ∧ s.dp ≤ (shl s (tab (-s.dp).toNat)).dp := by
  have hk := tab_le (-s.dp).toNat
  have l1 := lead_range h.lead
  have l2 := lead_range (shl_ok h (tab (-s.dp).toNat)).lead
  have h27 := shl_dp h (k := tab (-s.dp).toNat) (d := 27) (Nat.le_trans (Nat.pow_le_pow_right (by decide) hk.2) (Nat.pow_le_pow_left (by decide) 27))
  have hm : mUp (shl s (tab (-s.dp).toNat)) < mUp s := by
    unfold mUp
    by_cases he : (shl s (tab (-s.dp).toNat)).dp = s.dp
    · have := shl_same h hk.1 he
      omega
    · omega
  refine ⟨hm, ?_, h27.2⟩
  rcases Int.lt_or_le s.dp 0 with h1 | h1
  · have := shl_dp h (tab_up (-s.dp).toNat (by omega))
    omega
  · have h2 : s.dp = 0 := by omega
    rcases hl with h3 | ⟨_, h3⟩
    · omega
    · have e1 : tab (-s.dp).toNat = 1 := by rw [h2]; rfl
      rw [e1, shl_half h h3]
      omega

/-- A shift to the right by any number. -/
noncomputable def shrN (s : St) (n : Nat) : St := if n ≤ 60 then shr s n else shrN (shr s 60) (n - 60)
termination_by n
theorem shrN_le {s : St} {n : Nat} (h : n ≤ 60) : shrN s n = shr s n := by rw [shrN, if_pos h]
theorem shrN_gt {s : St} {n : Nat} (h : ¬ n ≤ 60) : shrN s n = shrN (shr s 60) (n - 60) := by rw [shrN, if_neg h]

/-- Whether a decimal cut behind so many digits is rounded up. -/
def rupAt (s : St) (i : Nat) : Bool :=
  if s.nd ≤ i then false
  else if dgt s.D (s.nd - 1 - i) = 5 ∧ i + 1 = s.nd then s.tr || (decide (0 < i) && decide (dgt s.D (s.nd - 1 - (i - 1)) % 2 ≠ 0))
  else decide (5 ≤ dgt s.D (s.nd - 1 - i))
def rup (s : St) (x : Int) : Bool := if x < 0 then false else rupAt s x.toNat
/-- The first r digits of a number, zeros behind it. -/
def pre (D nd r : Nat) : Nat := if r ≤ nd then D / 10 ^ (nd - r) else D * 10 ^ (r - nd)
def rint (s : St) : Nat := pre s.D s.nd s.dp.toNat + (if rup s s.dp then 1 else 0)

/-- Whether a decimal is too large for a float of 32 bits. -/
def Tail (s : St) (e : Int) (o : Bool) : Prop :=
  if 128 ≤ e then o = true else o = (decide (rint (shl s 24) = 16777216) && decide (127 ≤ e))
def FBits (s : St) (o : Bool) : Prop :=
  if 310 < s.dp then o = true else if s.dp < -330 then o = false else
  ∃ a b a' b', Down s 0 a b ∧ Up a b a' b' ∧ (if b' - 1 < -126 then Tail (shrN a' (-126 - (b' - 1)).toNat) (-126) o else Tail a' (b' - 1) o)
theorem Tail.uniq {s : St} {e : Int} {o o' : Bool} (h : Tail s e o) (k : Tail s e o') : o = o' := by
  unfold Tail at h k
  split at h <;> simp_all
theorem FBits.uniq {s : St} {o o' : Bool} (h : FBits s o) (k : FBits s o') : o = o' := by
  unfold FBits at h k
  split at h
  · simp_all
  · rename_i h1
    rw [if_neg h1] at k
    split at h
    · simp_all
    · rename_i h2
      rw [if_neg h2] at k
      obtain ⟨a, b, a', b', d, u, t⟩ := h
      obtain ⟨c, d', c', d'', dd, uu, tt⟩ := k
      obtain ⟨rfl, rfl⟩ := d.uniq dd
      obtain ⟨rfl, rfl⟩ := u.uniq uu
      split at t
      · rename_i h3
        rw [if_pos h3] at tt
        exact t.uniq tt
      · rename_i h3
        rw [if_neg h3] at tt
        exact t.uniq tt

/-- How much the first loop can add to the exponent. -/
def mtab (d : Int) : Int := if d ≤ 0 then 0 else if d ≤ 1 then 6 else if d ≤ 2 then 12 else if d ≤ 3 then 15 else if d ≤ 4 then 19 else if d ≤ 5 then 22 else if d ≤ 6 then 25 else if d ≤ 7 then 29 else if d ≤ 8 then 32 else (27 * d + 44) / 8
theorem mtab_cases (a : Int) : (a ≤ 0 ∧ mtab a = 0) ∨ (a = 1 ∧ mtab a = 6) ∨ (a = 2 ∧ mtab a = 12) ∨ (a = 3 ∧ mtab a = 15) ∨ (a = 4 ∧ mtab a = 19) ∨ (a = 5 ∧ mtab a = 22) ∨ (a = 6 ∧ mtab a = 25) ∨ (a = 7 ∧ mtab a = 29) ∨ (a = 8 ∧ mtab a = 32) ∨ (9 ≤ a ∧ mtab a = (27 * a + 44) / 8) := by
  unfold mtab
  repeat' split
  all_goals omega
theorem mtab_mono {a c : Int} (h : a ≤ c) : mtab a ≤ mtab c := by
  have h1 := mtab_cases a
  have h2 := mtab_cases c
  rcases h1 with h1 | h1 | h1 | h1 | h1 | h1 | h1 | h1 | h1 | h1 <;> omega
def most (s : St) : Int := if s.dp = 1 ∧ lead s.D s.nd < 8 then 3 else mtab s.dp
theorem most_le (s : St) : most s ≤ mtab s.dp := by
  unfold most
  split
  · rename_i h; rw [h.1]; decide
  · exact Int.le_refl _
theorem most_big {s : St} (h : s.dp ≠ 1) : most s = mtab s.dp := by
  unfold most; rw [if_neg (fun h1 => h h1.1)]
theorem most_step {s : St} (h : Ok s) (hdp : 0 < s.dp) : (tab s.dp.toNat : Int) + most (shr s (tab s.dp.toNat)) ≤ most s := by
  have hc : s.dp = 1 ∨ s.dp = 2 ∨ s.dp = 3 ∨ s.dp = 4 ∨ s.dp = 5 ∨ s.dp = 6 ∨ s.dp = 7 ∨ s.dp = 8 ∨ 9 ≤ s.dp := by omega
  have key : ∀ (n k q : Nat) (m : Int), s.dp = n → n ≠ 1 → tab n = k → 10 ^ q ≤ 2 ^ k → q + 1 = n → mtab n = m → (k : Int) + 6 ≤ m → (tab s.dp.toNat : Int) + most (shr s (tab s.dp.toNat)) ≤ most s := by
    intro n k q m h1 h0 h2 h3 h4 h5 h6
    rw [most_big (s := s) (by omega), h1, Int.toNat_natCast, h2, h5]
    have h7 := shr_dp h h3
    have h8 := most_le (shr s k)
    have h9 := mtab_mono (a := (shr s k).dp) (c := 1) (by omega)
    have e : mtab 1 = 6 := by decide
    omega
  rcases hc with h1 | h1 | h1 | h1 | h1 | h1 | h1 | h1 | h1
  · have e1 : s.dp.toNat = 1 := by omega
    have e2 : tab 1 = 3 := rfl
    rw [e1, e2]
    have h3 := shr_dp h (k := 3) (d := 0) (by decide)
    have l2 := lead_range (shr_ok h 3).lead
    have l1 := lead_range h.lead
    have m1 : mtab 1 = 6 := by decide
    have m0 : mtab 0 = 0 := by decide
    by_cases he : (shr s 3).dp = s.dp
    · have hs := shr_same h he
      have e3 : (2 : Nat) ^ 3 = 8 := rfl
      rw [e3] at hs
      have em2 : most (shr s 3) = 3 := by
        unfold most; rw [if_pos ⟨by omega, by omega⟩]
      have em : most s = 6 := by
        unfold most; rw [if_neg (fun hh => by omega), h1]; decide
      rw [em, em2]
      decide
    · have h8 := most_le (shr s 3)
      have h9 := mtab_mono (a := (shr s 3).dp) (c := 0) (by omega)
      have em : 3 ≤ most s := by
        unfold most; rw [h1, m1]; split <;> omega
      omega
  · exact key 2 6 1 12 h1 (by decide) rfl (by decide) rfl (by decide) (by decide)
  · exact key 3 9 2 15 h1 (by decide) rfl (by decide) rfl (by decide) (by decide)
  · exact key 4 13 3 19 h1 (by decide) rfl (by decide) rfl (by decide) (by decide)
  · exact key 5 16 4 22 h1 (by decide) rfl (by decide) rfl (by decide) (by decide)
  · exact key 6 19 5 25 h1 (by decide) rfl (by decide) rfl (by decide) (by decide)
  · exact key 7 23 6 29 h1 (by decide) rfl (by decide) rfl (by decide) (by decide)
  · exact key 8 26 7 32 h1 (by decide) rfl (by decide) rfl (by decide) (by decide)
  · have e1 : tab s.dp.toNat = 27 := tab_big (by omega)
    rw [e1, most_big (s := s) (by omega)]
    have h3 := shr_dp h (k := 27) (d := 8) (by decide)
    have h8 := most_le (shr s 27)
    have h9 := mtab_mono (a := (shr s 27).dp) (c := s.dp - 8) (by omega)
    have h10 : 27 + mtab (s.dp - 8) ≤ mtab s.dp := by
      have h1 := mtab_cases (s.dp - 8)
      have h2 := mtab_cases s.dp
      rcases h1 with h1 | h1 | h1 | h1 | h1 | h1 | h1 | h1 | h1 | h1 <;> omega
    omega
theorem Down.most {s : St} {e : Int} {a : St} {b : Int} (h : Down s e a b) : Ok s → Ok a ∧ b ≤ e + Fl.most s ∧ a.dp ≤ 0 := by
  induction h with
  | stop h0 => intro h; exact ⟨h, by have h1 := most_big (s := _) (fun h2 => by rw [h2] at h0; omega); rw [h1]; unfold mtab; rw [if_pos h0]; omega, h0⟩
  | step h0 _ ih =>
    intro h
    obtain ⟨a1, a2, a3⟩ := ih (shr_ok h _)
    have := most_step h h0
    exact ⟨a1, by omega, a3⟩
theorem Up.most {s : St} {e : Int} {a : St} {b : Int} (h : Up s e a b) : b ≤ e := by
  induction h with
  | stop _ => exact Int.le_refl _
  | step _ _ ih => omega
/-- A decimal of at most 31 digits ahead of its point is not too large. -/
theorem FBits.small {s : St} {o : Bool} (h : FBits s o) (hs : Ok s) (hdp : s.dp ≤ 31) : o = false := by
  unfold FBits at h
  rw [if_neg (by omega)] at h
  split at h
  · exact h
  · obtain ⟨a, b, a', b', d, u, t⟩ := h
    obtain ⟨_, h1, _⟩ := d.most hs
    have h2 := u.most
    have h3 : Fl.most s ≤ 110 := by
      have h4 := most_le s
      have h5 := mtab_mono (a := s.dp) (c := 31) hdp
      have e : mtab 31 = 110 := by decide
      omega
    split at t
    · unfold Tail at t
      rw [if_neg (by omega)] at t
      rw [t, show decide (127 ≤ (-126 : Int)) = false from rfl, Bool.and_false]
    · unfold Tail at t
      rw [if_neg (by omega)] at t
      rw [t, decide_eq_false (show ¬ 127 ≤ b' - 1 by omega), Bool.and_false]
end Go.Proofs.YtiebedcldbmlhaaGreatDoor.Fl
namespace Go.Proofs.YtiebedcldbmlhaaGreatDoor.Fl
set_option linter.unusedVariables false

/-- lower -/
def low (c : Nat) : Nat := c ||| 32
def isD (c : Nat) : Bool := decide (48 ≤ c) && decide (c ≤ 57)
def signOf : List Nat → Bool × List Nat
  | [] => (false, [])
  | c :: l => if c = 43 then (false, l) else if c = 45 then (true, l) else (false, c :: l)
/-- The digits of an exponent. -/
def expRun : Nat → Bool → List Nat → Nat × Bool × List Nat
  | e, us, [] => (e, us, [])
  | e, us, c :: l => if c = 95 then expRun e true l else if 48 ≤ c ∧ c ≤ 57 then expRun (if e < 10000 then e * 10 + (c - 48) else e) us l else (e, us, c :: l)
def expTail (us : Bool) (dp : Int) (ng : Bool) : List Nat → Option (Int × Bool × List Nat)
  | [] => none
  | d :: r => if 48 ≤ d ∧ d ≤ 57 then some (dp + (if ng then -((expRun 0 us (d :: r)).1 : Int) else ((expRun 0 us (d :: r)).1 : Int)), (expRun 0 us (d :: r)).2) else none
/-- An exponent, if there is one; the point behind it, whether underscores were met, what is left. -/
def expOf (hx us : Bool) (dp : Int) : List Nat → Option (Int × Bool × List Nat)
  | [] => if hx then none else some (dp, us, [])
  | c :: l =>
    if low c = (if hx then 112 else 101) then expTail us dp (signOf l).1 (signOf l).2
    else if hx then none else some (dp, us, c :: l)
/-- What readFloat has read. -/
structure Rf where
  man : Nat
  dot : Bool
  dig : Bool
  nd : Nat
  nm : Nat
  dp : Int
  tr : Bool
  us : Bool
def base (hx : Bool) : Nat := if hx then 16 else 10
def maxd (hx : Bool) : Nat := if hx then 16 else 19
def rfStep (hx : Bool) (r : Rf) (c : Nat) : Option Rf :=
  if c = 95 then some { r with us := true }
  else if c = 46 then (if r.dot then none else some { r with dot := true, dp := r.nd })
  else if 48 ≤ c ∧ c ≤ 57 then
    if c = 48 ∧ r.nd = 0 then some { r with dig := true, dp := r.dp - 1 }
    else if r.nm < maxd hx then some { r with dig := true, nd := r.nd + 1, man := r.man * base hx + (c - 48), nm := r.nm + 1 }
    else some { r with dig := true, nd := r.nd + 1, tr := r.tr || decide (c ≠ 48) }
  else if hx = true ∧ 97 ≤ low c ∧ low c ≤ 102 then
    if r.nm < maxd hx then some { r with dig := true, nd := r.nd + 1, man := r.man * 16 + (low c - 87), nm := r.nm + 1 }
    else some { r with dig := true, nd := r.nd + 1, tr := true }
  else none
def rfRun (hx : Bool) : Rf → List Nat → Rf × List Nat
  | r, [] => (r, [])
  | r, c :: l => match rfStep hx r c with
    | none => (r, c :: l)
    | some r' => rfRun hx r' l
def rf0 : Rf := ⟨0, false, false, 0, 0, 0, false, false⟩
/-- The sign of a hexadecimal number. -/
def hexOf : List Nat → Bool × List Nat
  | a :: c :: d :: l => if a = 48 ∧ low c = 120 then (true, d :: l) else (false, a :: c :: d :: l)
  | l => (false, l)
/-- Whether underscores stand where they may: the loop. -/
def uRun (hx : Bool) : Nat → List Nat → Bool
  | i, [] => decide (i ≠ 95)
  | i, c :: l =>
    if (48 ≤ c ∧ c ≤ 57) ∨ (hx = true ∧ 97 ≤ low c ∧ low c ≤ 102) then uRun hx 48 l
    else if c = 95 then (if i = 48 then uRun hx 95 l else false)
    else if i = 95 then false else uRun hx 33 l
def uOk (l : List Nat) : Bool :=
  match (signOf l).2 with
  | a :: c :: r => if a = 48 ∧ (low c = 98 ∨ low c = 111 ∨ low c = 120) then uRun (decide (low c = 120)) 48 r else uRun false 94 (a :: c :: r)
  | r => uRun false 94 r
/-- What readFloat tells of a text that begins with a number. -/
structure Rd where
  man : Nat
  exp : Int
  neg : Bool
  tr : Bool
  hx : Bool
  n : Nat
def rdTail (l : List Nat) (ng hx : Bool) (r : Rf) (rest : List Nat) : Option Rd :=
  if r.dig = false then none else
  match expOf hx r.us ((if hx then 4 else 1) * (if r.dot then r.dp else r.nd)) rest with
  | none => none
  | some (dp, us, rest') =>
    if us = true ∧ uOk (l.take (l.length - rest'.length)) = false then none
    else some ⟨r.man, if r.man = 0 then 0 else dp - (if hx then 4 else 1) * r.nm, ng, r.tr, hx, l.length - rest'.length⟩
def readF (l : List Nat) : Option Rd :=
  if l = [] then none else
  rdTail l (signOf l).1 (hexOf (signOf l).2).1 (rfRun (hexOf (signOf l).2).1 rf0 (hexOf (signOf l).2).2).1 (rfRun (hexOf (signOf l).2).1 rf0 (hexOf (signOf l).2).2).2

/-- What set has read. -/
structure Sd where
  D : Nat
  nd : Nat
  dp : Int
  tr : Bool
  dot : Bool
  dig : Bool
def sd0 : Sd := ⟨0, 0, 0, false, false, false⟩
inductive SdR where
  | go (r : Sd)
  | stop
  | fail
def sdStep (r : Sd) (c : Nat) : SdR :=
  if c = 95 then .go r
  else if c = 46 then (if r.dot then .fail else .go { r with dot := true, dp := r.nd })
  else if 48 ≤ c ∧ c ≤ 57 then
    if c = 48 ∧ r.nd = 0 then .go { r with dig := true, dp := r.dp - 1 }
    else if r.nd < 800 then .go { r with dig := true, nd := r.nd + 1, D := 10 * r.D + (c - 48) }
    else .go { r with dig := true, tr := r.tr || decide (c ≠ 48) }
  else .stop
def sdRun : Sd → List Nat → Option (Sd × List Nat)
  | r, [] => some (r, [])
  | r, c :: l => match sdStep r c with
    | .go r' => sdRun r' l
    | .stop => some (r, c :: l)
    | .fail => none
def sdTail (r : Sd) (rest : List Nat) : Option St :=
  if r.dig = false then none else
  match expOf false false (if r.dot then r.dp else r.nd) rest with
  | some (dp, _, []) => some ⟨r.D, r.nd, dp, r.tr⟩
  | _ => none
def setF (l : List Nat) : Option St :=
  if l = [] then none else
  match sdRun sd0 (signOf l).2 with
  | none => none
  | some (r, rest) => sdTail r rest
end Go.Proofs.YtiebedcldbmlhaaGreatDoor.Fl
namespace Go.Proofs.YtiebedcldbmlhaaGreatDoor.Fl
set_option linter.unusedVariables false

/-- A reading's counts are within what was read. -/
def RfB (r : Rf) (n : Nat) : Prop := r.nm ≤ n ∧ r.nd ≤ n ∧ -(n : Int) ≤ r.dp ∧ r.dp ≤ n
theorem rfStep_b {hx : Bool} {r r' : Rf} {c n : Nat} (h : rfStep hx r c = some r') (hb : RfB r n) : RfB r' (n + 1) := by
  obtain ⟨h1, h2, h3, h4⟩ := hb
  unfold rfStep at h
  repeat' split at h
  all_goals first
    | (cases h; done)
    | (cases h; refine ⟨?_, ?_, ?_, ?_⟩ <;> simp only <;> omega)
theorem rfRun_b {hx : Bool} : ∀ (l : List Nat) (r : Rf) (n : Nat), RfB r n → RfB (rfRun hx r l).1 (n + l.length)
  | [], r, n, hb => by unfold rfRun; exact hb
  | c :: l, r, n, hb => by
    unfold rfRun
    split
    · obtain ⟨h1, h2, h3, h4⟩ := hb
      refine ⟨?_, ?_, ?_, ?_⟩ <;> simp only [List.length_cons] <;> omega
    · rename_i r' hr
      have := rfRun_b (hx := hx) l r' (n + 1) (rfStep_b hr hb)
      rw [List.length_cons, show n + (l.length + 1) = n + 1 + l.length by omega]
      exact this
theorem rf0_b : RfB rf0 0 := ⟨Nat.le_refl _, Nat.le_refl _, Int.le_refl _, Int.le_refl _⟩
theorem expRun_b : ∀ (l : List Nat) (e : Nat) (us : Bool), e ≤ 99999 → (expRun e us l).1 ≤ 99999
  | [], e, us, h => by unfold expRun; exact h
  | c :: l, e, us, h => by
    unfold expRun
    split
    · exact expRun_b l e true h
    · split
      · refine expRun_b l _ us ?_
        split
        · omega
        · exact h
      · exact h
theorem expTail_b {us ng : Bool} {dp dp' : Int} {l : List Nat} {x : Bool × List Nat} (h : expTail us dp ng l = some (dp', x)) : dp - 99999 ≤ dp' ∧ dp' ≤ dp + 99999 := by
  unfold expTail at h
  split at h
  · cases h
  · rename_i d r
    split at h
    · have hb := expRun_b (d :: r) 0 us (by omega)
      have h1 := congrArg Prod.fst (Option.some.inj h)
      simp only at h1
      cases ng
      · simp only [Bool.false_eq_true, if_false] at h1
        omega
      · simp only [if_true] at h1
        omega
    · cases h
theorem expOf_b {hx us : Bool} {dp dp' : Int} {l : List Nat} {x : Bool × List Nat} (h : expOf hx us dp l = some (dp', x)) : dp - 99999 ≤ dp' ∧ dp' ≤ dp + 99999 := by
  have hs : ∀ {y : Bool × List Nat}, some (dp, y) = some (dp', x) → dp - 99999 ≤ dp' ∧ dp' ≤ dp + 99999 := fun {y} h => by
    have h1 := congrArg Prod.fst (Option.some.inj h)
    simp only at h1
    omega
  cases l with
  | nil =>
    unfold expOf at h
    cases hx with
    | true => cases h
    | false => exact hs h
  | cons c l =>
    unfold expOf at h
    simp only at h
    by_cases hc : low c = (if hx = true then 112 else 101)
    · rw [if_pos hc] at h
      exact expTail_b h
    · rw [if_neg hc] at h
      cases hx with
      | true => cases h
      | false => exact hs h
theorem signOf_len (l : List Nat) : (signOf l).2.length ≤ l.length := by
  unfold signOf
  repeat' split
  all_goals simp
theorem hexOf_len (l : List Nat) : (hexOf l).2.length ≤ l.length := by
  unfold hexOf
  repeat' split
  all_goals simp
theorem readF_exp {l : List Nat} {r : Rd} (h : readF l = some r) : -(8 * (l.length : Int) + 100000) ≤ r.exp ∧ r.exp ≤ 8 * (l.length : Int) + 100000 := by
  unfold readF at h
  split at h
  · cases h
  have h1 := signOf_len l
  have h2 := hexOf_len (signOf l).2
  generalize (hexOf (signOf l).2).1 = hx at h
  have hb := rfRun_b (hx := hx) (hexOf (signOf l).2).2 rf0 0 rf0_b
  generalize (rfRun hx rf0 (hexOf (signOf l).2).2).1 = q at h hb
  generalize (rfRun hx rf0 (hexOf (signOf l).2).2).2 = rest at h
  obtain ⟨b1, b2, b3, b4⟩ := hb
  unfold rdTail at h
  split at h
  · cases h
  split at h
  · cases h
  · rename_i dp us rest' he
    have hd := expOf_b he
    split at h
    · cases h
    · cases h
      simp only
      split
      · omega
      · have hm : -((hexOf (signOf l).2).2.length : Int) ≤ (if q.dot = true then q.dp else (q.nd : Int)) ∧ (if q.dot = true then q.dp else (q.nd : Int)) ≤ (hexOf (signOf l).2).2.length := by
          split <;> omega
        generalize (if q.dot = true then q.dp else (q.nd : Int)) = z at hd hm
        cases hx
        · simp only [Bool.false_eq_true, if_false] at hd ⊢
          omega
        · simp only [if_true] at hd ⊢
          omega

/-- A halving that keeps whether a bit was lost. -/
def half (m : Nat) : Nat := m / 2 ||| m % 2
theorem half_lt {m k : Nat} (h : m < 2 ^ (k + 2)) : half m < 2 ^ (k + 1) := by
  unfold half
  have h1 : m % 2 < 2 := Nat.mod_lt _ (by decide)
  have h2 : 2 ^ (k + 2) = 2 * 2 ^ (k + 1) := by rw [Nat.pow_succ]; omega
  have h3 : 0 < 2 ^ k := Nat.pow_pos (by decide)
  have h4 : 2 ^ (k + 1) = 2 * 2 ^ k := by rw [Nat.pow_succ]; omega
  exact Nat.or_lt_two_pow (by omega) (by omega)
/-- The three loops of atofHex. -/
def hxUp : Nat → Nat → Int → Nat × Int
  | 0, m, e => (m, e)
  | k + 1, m, e => if m ≠ 0 ∧ m < 33554432 then hxUp k (m * 2) (e - 1) else (m, e)
def hxDn : Nat → Nat → Int → Nat × Int
  | 0, m, e => (m, e)
  | k + 1, m, e => if 67108864 ≤ m then hxDn k (half m) (e + 1) else (m, e)
def hxDen : Nat → Nat → Int → Nat × Int
  | 0, m, e => (m, e)
  | k + 1, m, e => if 1 < m ∧ e < -128 then hxDen k (half m) (e + 1) else (m, e)
theorem hxUp_go {k m : Nat} {e : Int} (h : m ≠ 0) (h1 : m < 33554432) : hxUp (k + 1) m e = hxUp k (m * 2) (e - 1) := by
  conv => lhs; unfold hxUp
  rw [if_pos ⟨h, h1⟩]
theorem hxUp_end {k m : Nat} {e : Int} (h : m = 0 ∨ 33554432 ≤ m) : hxUp k m e = (m, e) := by
  cases k with
  | zero => rfl
  | succ k => unfold hxUp; rw [if_neg (by omega)]
theorem hxDn_go {k m : Nat} {e : Int} (h : 67108864 ≤ m) : hxDn (k + 1) m e = hxDn k (half m) (e + 1) := by
  conv => lhs; unfold hxDn
  rw [if_pos h]
theorem hxDn_end {k m : Nat} {e : Int} (h : m < 67108864) : hxDn k m e = (m, e) := by
  cases k with
  | zero => rfl
  | succ k => unfold hxDn; rw [if_neg (by omega)]
theorem hxDen_go {k m : Nat} {e : Int} (h : 1 < m) (h1 : e < -128) : hxDen (k + 1) m e = hxDen k (half m) (e + 1) := by
  conv => lhs; unfold hxDen
  rw [if_pos ⟨h, h1⟩]
theorem hxDen_end {k m : Nat} {e : Int} (h : m ≤ 1 ∨ -128 ≤ e) : hxDen k m e = (m, e) := by
  cases k with
  | zero => rfl
  | succ k => unfold hxDen; rw [if_neg (by omega)]
/-- What stands behind the loops: the rounding; whether the exponent is too large. -/
def hxR (m : Nat) (e : Int) : Nat × Int :=
  if (m % 4 ||| m / 4 % 2) = 3 then (if m / 4 + 1 = 16777216 then (8388608, e + 3) else (m / 4 + 1, e + 2)) else (m / 4, e + 2)
def hxFin (m : Nat) (e : Int) : Bool := if (hxR m e).1 < 8388608 then false else decide (127 < (hxR m e).2)
def hxMid (m : Nat) (e : Int) : Bool := hxFin (hxDen 64 (hxDn 64 m e).1 (hxDn 64 m e).2).1 (hxDen 64 (hxDn 64 m e).1 (hxDn 64 m e).2).2
def hxErr (m : Nat) (e : Int) (tr : Bool) : Bool := hxMid (if tr then (hxUp 64 m (e + 23)).1 ||| 1 else (hxUp 64 m (e + 23)).1) (hxUp 64 m (e + 23)).2
end Go.Proofs.YtiebedcldbmlhaaGreatDoor.Fl
