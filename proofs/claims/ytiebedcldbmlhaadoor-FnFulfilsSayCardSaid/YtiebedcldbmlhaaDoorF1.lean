/-
  The slow path's steps as plain functions and relations: what a shift does to the point and the first digit; the two loops that bring a decimal into the range from a half to one. Conditions: none.
-/
import Derived.Test.YtiebedcldbmlhaaDoorF0
namespace Go.Proofs.YtiebedcldbmlhaaDoor.Fl
set_option linter.unusedVariables false

/-- A decimal that is none of the odd ones. -/
structure Ok (s : St) : Prop where
  lead : Lead s.D s.nd
  le : s.nd ≤ 800
theorem two_ten (k : Nat) : 2 ^ k * 5 ^ k = 10 ^ k := by rw [← Nat.mul_pow]
theorem shr_ok {s : St} (h : Ok s) (k : Nat) : Ok (shr s k) := by
  have hN0 : 0 < s.D * 5 ^ k := Nat.mul_pos (lead_pos h.lead) (Nat.pow_pos (by decide))
  have := cut_lead (lead_nlen hN0) (s.dp + nlen (s.D * 5 ^ k) - s.nd - k) s.tr
  exact ⟨this.1, this.2.1⟩
theorem shl_ok {s : St} (h : Ok s) (k : Nat) : Ok (shl s k) := by
  have hN0 : 0 < s.D * 2 ^ k := Nat.mul_pos (lead_pos h.lead) (Nat.pow_pos (by decide))
  have := cut_lead (lead_nlen hN0) (s.dp + nlen (s.D * 2 ^ k) - s.nd) s.tr
  exact ⟨this.1, this.2.1⟩
/-- A shift to the right moves the point to the left. -/
theorem shr_dp {s : St} (h : Ok s) {k d : Nat} (hd : 10 ^ d ≤ 2 ^ k) : (shr s k).dp ≤ s.dp - d ∧ s.dp - k ≤ (shr s k).dp := by
  have hN0 : 0 < s.D * 5 ^ k := Nat.mul_pos (lead_pos h.lead) (Nat.pow_pos (by decide))
  have hL := lead_nlen hN0
  have e := (cut_lead hL (s.dp + nlen (s.D * 5 ^ k) - s.nd - k) s.tr).2.2.2.2
  have e' : (shr s k).dp = s.dp + nlen (s.D * 5 ^ k) - s.nd - k := e
  rw [e']
  generalize nlen (s.D * 5 ^ k) = L at *
  have hdk : d ≤ k := by
    rcases Nat.lt_or_ge k d with h1 | h1
    · exfalso
      have h2 : 10 ^ (k + 1) ≤ 10 ^ d := Nat.pow_le_pow_right (by decide) h1
      have h3 : 2 ^ k ≤ 10 ^ k := Nat.pow_le_pow_left (by decide) k
      have h4 := p10 k
      rw [Nat.pow_succ] at h2
      omega
    · exact h1
  have up : s.D * 5 ^ k < 10 ^ (s.nd + (k - d)) := by
    have h1 : 5 ^ k ≤ 10 ^ (k - d) := by
      have h2 : 10 ^ d * 5 ^ k ≤ 10 ^ d * 10 ^ (k - d) := by
        rw [← Nat.pow_add, show d + (k - d) = k by omega, (two_ten k).symm]
        exact Nat.mul_le_mul_right _ hd
      exact Nat.le_of_mul_le_mul_left h2 (p10 d)
    rw [Nat.pow_add]
    exact Nat.lt_of_lt_of_le ((Nat.mul_lt_mul_right (Nat.pow_pos (by decide))).2 h.lead.up) (Nat.mul_le_mul_left _ h1)
  have hLup : L ≤ s.nd + (k - d) := by
    rcases Nat.lt_or_ge (s.nd + (k - d)) L with h1 | h1
    · exfalso
      have h2 := hL.low
      have h3 := Nat.pow_le_pow_right (show 0 < 10 by decide) (show s.nd + (k - d) ≤ L - 1 by omega)
      omega
    · exact h1
  have hLlo : s.nd ≤ L := by
    rcases Nat.lt_or_ge L s.nd with h1 | h1
    · exfalso
      have h2 := hL.up
      have h3 := Nat.pow_le_pow_right (show 0 < 10 by decide) (show L ≤ s.nd - 1 by omega)
      have h4 := h.lead.low
      have h5 : s.D * 1 ≤ s.D * 5 ^ k := Nat.mul_le_mul_left _ (Nat.pow_pos (by decide))
      omega
    · exact h1
  omega
/-- A shift to the right that leaves the point where it is divides the first digit. -/
theorem shr_same {s : St} (h : Ok s) {k : Nat} (hd : (shr s k).dp = s.dp) : lead (shr s k).D (shr s k).nd = lead s.D s.nd / 2 ^ k := by
  have hN0 : 0 < s.D * 5 ^ k := Nat.mul_pos (lead_pos h.lead) (Nat.pow_pos (by decide))
  have hL := lead_nlen hN0
  have e := (cut_lead hL (s.dp + nlen (s.D * 5 ^ k) - s.nd - k) s.tr).2.2.2.2
  have e' : (shr s k).dp = s.dp + nlen (s.D * 5 ^ k) - s.nd - k := e
  have e2 : lead (shr s k).D (shr s k).nd = lead (s.D * 5 ^ k) (nlen (s.D * 5 ^ k)) := cut_first hL _ _
  rw [e2]
  generalize nlen (s.D * 5 ^ k) = L at *
  have hLk : L = s.nd + k := by omega
  unfold lead
  have h1 := h.lead.one
  rw [hLk, Nat.div_div_eq_div_mul, show s.nd + k - 1 = (s.nd - 1) + k by omega, Nat.pow_add, ← two_ten k, ← Nat.mul_assoc]
  exact Nat.mul_div_mul_right _ _ (Nat.pow_pos (by decide))
theorem shl_dp {s : St} (h : Ok s) {k d : Nat} (hd : 2 ^ k ≤ 10 ^ d) : (shl s k).dp ≤ s.dp + d ∧ s.dp ≤ (shl s k).dp := by
  have hN0 : 0 < s.D * 2 ^ k := Nat.mul_pos (lead_pos h.lead) (Nat.pow_pos (by decide))
  have hL := lead_nlen hN0
  have e := (cut_lead hL (s.dp + nlen (s.D * 2 ^ k) - s.nd) s.tr).2.2.2.2
  have e' : (shl s k).dp = s.dp + nlen (s.D * 2 ^ k) - s.nd := e
  rw [e']
  generalize nlen (s.D * 2 ^ k) = L at *
  have up : s.D * 2 ^ k < 10 ^ (s.nd + d) := by
    rw [Nat.pow_add]
    exact Nat.lt_of_lt_of_le ((Nat.mul_lt_mul_right (Nat.pow_pos (by decide))).2 h.lead.up) (Nat.mul_le_mul_left _ hd)
  have hLup : L ≤ s.nd + d := by
    rcases Nat.lt_or_ge (s.nd + d) L with h1 | h1
    · exfalso
      have h2 := hL.low
      have h3 := Nat.pow_le_pow_right (show 0 < 10 by decide) (show s.nd + d ≤ L - 1 by omega)
      omega
    · exact h1
  have hLlo : s.nd ≤ L := by
    rcases Nat.lt_or_ge L s.nd with h1 | h1
    · exfalso
      have h2 := hL.up
      have h3 := Nat.pow_le_pow_right (show 0 < 10 by decide) (show L ≤ s.nd - 1 by omega)
      have h4 := h.lead.low
      have h5 : s.D * 1 ≤ s.D * 2 ^ k := Nat.mul_le_mul_left _ (Nat.pow_pos (by decide))
      omega
    · exact h1
  omega
theorem shl_half {s : St} (h : Ok s) (h5 : lead s.D s.nd < 5) : (shl s 1).dp = s.dp := by
  have hN0 : 0 < s.D * 2 ^ 1 := Nat.mul_pos (lead_pos h.lead) (Nat.pow_pos (by decide))
  have hL := lead_nlen hN0
  have e := (cut_lead hL (s.dp + nlen (s.D * 2 ^ 1) - s.nd) s.tr).2.2.2.2
  have e' : (shl s 1).dp = s.dp + nlen (s.D * 2 ^ 1) - s.nd := e
  have hl : Lead (s.D * 2 ^ 1) s.nd := by
    refine ⟨h.lead.one, by have := h.lead.low; omega, ?_⟩
    unfold lead at h5
    rw [Nat.div_lt_iff_lt_mul (p10 _)] at h5
    have h1 := h.lead.one
    have h2 : 10 ^ s.nd = 10 ^ (s.nd - 1) * 10 := by rw [← Nat.pow_succ, show (s.nd - 1).succ = s.nd by omega]
    omega
  rw [e', nlen_eq hl]
  omega
theorem shl_same {s : St} (h : Ok s) {k : Nat} (hk : 1 ≤ k) (hd : (shl s k).dp = s.dp) : lead s.D s.nd < lead (shl s k).D (shl s k).nd := by
  have hN0 : 0 < s.D * 2 ^ k := Nat.mul_pos (lead_pos h.lead) (Nat.pow_pos (by decide))
  have hL := lead_nlen hN0
  have e := (cut_lead hL (s.dp + nlen (s.D * 2 ^ k) - s.nd) s.tr).2.2.2.2
  have e' : (shl s k).dp = s.dp + nlen (s.D * 2 ^ k) - s.nd := e
  have e2 : lead (shl s k).D (shl s k).nd = lead (s.D * 2 ^ k) (nlen (s.D * 2 ^ k)) := cut_first hL _ _
  rw [e2]
  generalize nlen (s.D * 2 ^ k) = L at *
  have hLk : L = s.nd := by omega
  subst hLk
  have h1 := (lead_range h.lead).1
  unfold lead at h1 ⊢
  have h3 : 2 * (s.D / 10 ^ (s.nd - 1)) ≤ s.D * 2 ^ k / 10 ^ (s.nd - 1) := by
    rw [Nat.le_div_iff_mul_le (p10 _)]
    have h2 : 2 ^ 1 ≤ 2 ^ k := Nat.pow_le_pow_right (by decide) hk
    calc 2 * (s.D / 10 ^ (s.nd - 1)) * 10 ^ (s.nd - 1) = 2 * (s.D / 10 ^ (s.nd - 1) * 10 ^ (s.nd - 1)) := Nat.mul_assoc ..
      _ ≤ 2 * s.D := Nat.mul_le_mul_left _ (div_lo _ _)
      _ = s.D * 2 := Nat.mul_comm ..
      _ ≤ s.D * 2 ^ k := Nat.mul_le_mul_left _ h2
  omega

/-- The table of shifts. -/
def tab (d : Nat) : Nat := [1, 3, 6, 9, 13, 16, 19, 23, 26].getD d 27
theorem tab_le (d : Nat) : 1 ≤ tab d ∧ tab d ≤ 27 := by
  unfold tab
  rcases Nat.lt_or_ge d 9 with h | h
  · have : ∀ d : Fin 9, 1 ≤ [1, 3, 6, 9, 13, 16, 19, 23, 26].getD d.val 27 ∧ [1, 3, 6, 9, 13, 16, 19, 23, 26].getD d.val 27 ≤ 27 := by decide
    exact this ⟨d, h⟩
  · rw [List.getD_eq_getElem?_getD, List.getElem?_eq_none (by simpa using h)]; decide
theorem tab_big {d : Nat} (h : 9 ≤ d) : tab d = 27 := by
  unfold tab; rw [List.getD_eq_getElem?_getD, List.getElem?_eq_none (by simpa using h)]; rfl
/-- The shift at so many digits is less than so many digits and, from two on, more than one less. -/
theorem tab_up : ∀ d, 1 ≤ d → 2 ^ tab d ≤ 10 ^ d := by
  intro d h1
  rcases Nat.lt_or_ge d 9 with h | h
  · have : ∀ d : Fin 9, 1 ≤ d.val → 2 ^ tab d.val ≤ 10 ^ d.val := by decide
    exact this ⟨d, h⟩ h1
  · rw [tab_big h]
    exact Nat.le_trans (show 2 ^ 27 ≤ 10 ^ 9 by decide) (Nat.pow_le_pow_right (by decide) h)
theorem tab_lo : ∀ d, 2 ≤ d → 10 ^ 1 ≤ 2 ^ tab d := by
  intro d h1
  rcases Nat.lt_or_ge d 9 with h | h
  · have : ∀ d : Fin 9, 2 ≤ d.val → 10 ^ 1 ≤ 2 ^ tab d.val := by decide
    exact this ⟨d, h⟩ h1
  · rw [tab_big h]; decide

inductive Down : St → Int → St → Int → Prop
  | stop {s : St} {e : Int} : s.dp ≤ 0 → Down s e s e
  | step {s : St} {e : Int} {a : St} {b : Int} : 0 < s.dp → Down (shr s (tab s.dp.toNat)) (e + tab s.dp.toNat) a b → Down s e a b
def Low (s : St) : Prop := s.dp < 0 ∨ (s.dp = 0 ∧ lead s.D s.nd < 5)
inductive Up : St → Int → St → Int → Prop
  | stop {s : St} {e : Int} : ¬ Low s → Up s e s e
  | step {s : St} {e : Int} {a : St} {b : Int} : Low s → Up (shl s (tab (-s.dp).toNat)) (e - tab (-s.dp).toNat) a b → Up s e a b
theorem Down.uniq {s : St} {e : Int} {a : St} {b : Int} (h : Down s e a b) : ∀ {a' : St} {b' : Int}, Down s e a' b' → a = a' ∧ b = b' := by
  induction h with
  | stop h0 =>
    intro a' b' k
    cases k with
    | stop _ => exact ⟨rfl, rfl⟩
    | step h1 _ => omega
  | step h0 _ ih =>
    intro a' b' k
    cases k with
    | stop h1 => omega
    | step _ k => exact ih k
theorem Up.uniq {s : St} {e : Int} {a : St} {b : Int} (h : Up s e a b) : ∀ {a' : St} {b' : Int}, Up s e a' b' → a = a' ∧ b = b' := by
  induction h with
  | stop h0 =>
    intro a' b' k
    cases k with
    | stop _ => exact ⟨rfl, rfl⟩
    | step h1 _ => exact absurd h1 h0
  | step h0 _ ih =>
    intro a' b' k
    cases k with
    | stop h1 => exact absurd h0 h1
    | step _ k => exact ih k
/-- What a round of the first loop does. -/
def mDown (s : St) : Int := 10 * s.dp + lead s.D s.nd
theorem down_step {s : St} (h : Ok s) (hdp : 0 < s.dp) : mDown (shr s (tab s.dp.toNat)) < mDown s ∧ (shr s (tab s.dp.toNat)).dp ≤ s.dp ∧ -27 ≤ (shr s (tab s.dp.toNat)).dp := by
  obtain ⟨j, hj⟩ : ∃ j, j = s.dp.toNat := ⟨_, rfl⟩
  rw [← hj]
  have hk := tab_le j
  have h0 := shr_dp h (k := tab j) (d := 0) (Nat.pow_pos (by decide))
  have l1 := lead_range h.lead
  have l2 := lead_range (shr_ok h (tab j)).lead
  unfold mDown
  refine ⟨?_, by omega, by omega⟩
  by_cases he : (shr s (tab j)).dp = s.dp
  · by_cases h1 : j = 1
    · have h2 := shr_same h he
      have h3 : lead s.D s.nd / 2 ^ tab j < lead s.D s.nd := by
        rw [h1]
        exact Nat.div_lt_self (by omega) (by decide)
      omega
    · have := shr_dp h (tab_lo j (by omega))
      omega
  · omega
theorem down_dp0 {s : St} (h : Ok s) (hdp : 0 < s.dp) : s.dp - 27 ≤ (shr s (tab s.dp.toNat)).dp := by
  have hk := tab_le s.dp.toNat
  have h0 := shr_dp h (k := tab s.dp.toNat) (d := 0) (Nat.pow_pos (by decide))
  omega
def mUp (s : St) : Int := -10 * s.dp + 10 - lead s.D s.nd
theorem up_step {s : St} (h : Ok s) (hdp : s.dp ≤ 0) (hl : Low s) : mUp (shl s (tab (-s.dp).toNat)) < mUp s ∧ (shl s (tab (-s.dp).toNat)).dp ≤ 0 ∧ s.dp ≤ (shl s (tab (-s.dp).toNat)).dp := by
  have hk := tab_le (-s.dp).toNat
  have l1 := lead_range h.lead
  have l2 := lead_range (shl_ok h (tab (-s.dp).toNat)).lead
  have h27 := shl_dp h (k := tab (-s.dp).toNat) (d := 27) (Nat.le_trans (Nat.pow_le_pow_right (by decide) hk.2) (Nat.pow_le_pow_left (by decide) 27))
  have hm : mUp (shl s (tab (-s.dp).toNat)) < mUp s := by
    unfold mUp
    by_cases he : (shl s (tab (-s.dp).toNat)).dp = s.dp
    · have := shl_same h hk.1 he
      omega
    · omega
  refine ⟨hm, ?_, h27.2⟩
  rcases Int.lt_or_le s.dp 0 with h1 | h1
  · have := shl_dp h (tab_up (-s.dp).toNat (by omega))
    omega
  · have h2 : s.dp = 0 := by omega
    rcases hl with h3 | ⟨_, h3⟩
    · omega
    · have e1 : tab (-s.dp).toNat = 1 := by rw [h2]; rfl
      rw [e1, shl_half h h3]
      omega

/-- A shift to the right by any number. -/
noncomputable def shrN (s : St) (n : Nat) : St := if n ≤ 60 then shr s n else shrN (shr s 60) (n - 60)
termination_by n
theorem shrN_le {s : St} {n : Nat} (h : n ≤ 60) : shrN s n = shr s n := by rw [shrN, if_pos h]
theorem shrN_gt {s : St} {n : Nat} (h : ¬ n ≤ 60) : shrN s n = shrN (shr s 60) (n - 60) := by rw [shrN, if_neg h]

/-- Whether a decimal cut behind so many digits is rounded up. -/
def rupAt (s : St) (i : Nat) : Bool :=
  if s.nd ≤ i then false
  else if dgt s.D (s.nd - 1 - i) = 5 ∧ i + 1 = s.nd then s.tr || (decide (0 < i) && decide (dgt s.D (s.nd - 1 - (i - 1)) % 2 ≠ 0))
  else decide (5 ≤ dgt s.D (s.nd - 1 - i))
def rup (s : St) (x : Int) : Bool := if x < 0 then false else rupAt s x.toNat
/-- The first r digits of a number, zeros behind it. -/
def pre (D nd r : Nat) : Nat := if r ≤ nd then D / 10 ^ (nd - r) else D * 10 ^ (r - nd)
def rint (s : St) : Nat := pre s.D s.nd s.dp.toNat + (if rup s s.dp then 1 else 0)

/-- Whether a decimal is too large for a float of 32 bits. -/
def Tail (s : St) (e : Int) (o : Bool) : Prop :=
  if 128 ≤ e then o = true else o = (decide (rint (shl s 24) = 16777216) && decide (127 ≤ e))
def FBits (s : St) (o : Bool) : Prop :=
  if 310 < s.dp then o = true else if s.dp < -330 then o = false else
  ∃ a b a' b', Down s 0 a b ∧ Up a b a' b' ∧ (if b' - 1 < -126 then Tail (shrN a' (-126 - (b' - 1)).toNat) (-126) o else Tail a' (b' - 1) o)
theorem Tail.uniq {s : St} {e : Int} {o o' : Bool} (h : Tail s e o) (k : Tail s e o') : o = o' := by
  unfold Tail at h k
  split at h <;> simp_all
theorem FBits.uniq {s : St} {o o' : Bool} (h : FBits s o) (k : FBits s o') : o = o' := by
  unfold FBits at h k
  split at h
  · simp_all
  · rename_i h1
    rw [if_neg h1] at k
    split at h
    · simp_all
    · rename_i h2
      rw [if_neg h2] at k
      obtain ⟨a, b, a', b', d, u, t⟩ := h
      obtain ⟨c, d', c', d'', dd, uu, tt⟩ := k
      obtain ⟨rfl, rfl⟩ := d.uniq dd
      obtain ⟨rfl, rfl⟩ := u.uniq uu
      split at t
      · rename_i h3
        rw [if_pos h3] at tt
        exact t.uniq tt
      · rename_i h3
        rw [if_neg h3] at tt
        exact t.uniq tt

/-- How much the first loop can add to the exponent. -/
def mtab (d : Int) : Int := if d ≤ 0 then 0 else if d ≤ 1 then 6 else if d ≤ 2 then 12 else if d ≤ 3 then 15 else if d ≤ 4 then 19 else if d ≤ 5 then 22 else if d ≤ 6 then 25 else if d ≤ 7 then 29 else if d ≤ 8 then 32 else (27 * d + 44) / 8
theorem mtab_cases (a : Int) : (a ≤ 0 ∧ mtab a = 0) ∨ (a = 1 ∧ mtab a = 6) ∨ (a = 2 ∧ mtab a = 12) ∨ (a = 3 ∧ mtab a = 15) ∨ (a = 4 ∧ mtab a = 19) ∨ (a = 5 ∧ mtab a = 22) ∨ (a = 6 ∧ mtab a = 25) ∨ (a = 7 ∧ mtab a = 29) ∨ (a = 8 ∧ mtab a = 32) ∨ (9 ≤ a ∧ mtab a = (27 * a + 44) / 8) := by
  unfold mtab
  repeat' split
  all_goals omega
theorem mtab_mono {a c : Int} (h : a ≤ c) : mtab a ≤ mtab c := by
  have h1 := mtab_cases a
  have h2 := mtab_cases c
  rcases h1 with h1 | h1 | h1 | h1 | h1 | h1 | h1 | h1 | h1 | h1 <;> omega
def most (s : St) : Int := if s.dp = 1 ∧ lead s.D s.nd < 8 then 3 else mtab s.dp
theorem most_le (s : St) : most s ≤ mtab s.dp := by
  unfold most
  split
  · rename_i h; rw [h.1]; decide
  · exact Int.le_refl _
theorem most_big {s : St} (h : s.dp ≠ 1) : most s = mtab s.dp := by
  unfold most; rw [if_neg (fun h1 => h h1.1)]
theorem most_step {s : St} (h : Ok s) (hdp : 0 < s.dp) : (tab s.dp.toNat : Int) + most (shr s (tab s.dp.toNat)) ≤ most s := by
  have hc : s.dp = 1 ∨ s.dp = 2 ∨ s.dp = 3 ∨ s.dp = 4 ∨ s.dp = 5 ∨ s.dp = 6 ∨ s.dp = 7 ∨ s.dp = 8 ∨ 9 ≤ s.dp := by omega
  have key : ∀ (n k q : Nat) (m : Int), s.dp = n → n ≠ 1 → tab n = k → 10 ^ q ≤ 2 ^ k → q + 1 = n → mtab n = m → (k : Int) + 6 ≤ m → (tab s.dp.toNat : Int) + most (shr s (tab s.dp.toNat)) ≤ most s := by
    intro n k q m h1 h0 h2 h3 h4 h5 h6
    rw [most_big (s := s) (by omega), h1, Int.toNat_natCast, h2, h5]
    have h7 := shr_dp h h3
    have h8 := most_le (shr s k)
    have h9 := mtab_mono (a := (shr s k).dp) (c := 1) (by omega)
    have e : mtab 1 = 6 := by decide
    omega
  rcases hc with h1 | h1 | h1 | h1 | h1 | h1 | h1 | h1 | h1
  · have e1 : s.dp.toNat = 1 := by omega
    have e2 : tab 1 = 3 := rfl
    rw [e1, e2]
    have h3 := shr_dp h (k := 3) (d := 0) (by decide)
    have l2 := lead_range (shr_ok h 3).lead
    have l1 := lead_range h.lead
    have m1 : mtab 1 = 6 := by decide
    have m0 : mtab 0 = 0 := by decide
    by_cases he : (shr s 3).dp = s.dp
    · have hs := shr_same h he
      have e3 : (2 : Nat) ^ 3 = 8 := rfl
      rw [e3] at hs
      have em2 : most (shr s 3) = 3 := by
        unfold most; rw [if_pos ⟨by omega, by omega⟩]
      have em : most s = 6 := by
        unfold most; rw [if_neg (fun hh => by omega), h1]; decide
      rw [em, em2]
      decide
    · have h8 := most_le (shr s 3)
      have h9 := mtab_mono (a := (shr s 3).dp) (c := 0) (by omega)
      have em : 3 ≤ most s := by
        unfold most; rw [h1, m1]; split <;> omega
      omega
  · exact key 2 6 1 12 h1 (by decide) rfl (by decide) rfl (by decide) (by decide)
  · exact key 3 9 2 15 h1 (by decide) rfl (by decide) rfl (by decide) (by decide)
  · exact key 4 13 3 19 h1 (by decide) rfl (by decide) rfl (by decide) (by decide)
  · exact key 5 16 4 22 h1 (by decide) rfl (by decide) rfl (by decide) (by decide)
  · exact key 6 19 5 25 h1 (by decide) rfl (by decide) rfl (by decide) (by decide)
  · exact key 7 23 6 29 h1 (by decide) rfl (by decide) rfl (by decide) (by decide)
  · exact key 8 26 7 32 h1 (by decide) rfl (by decide) rfl (by decide) (by decide)
  · have e1 : tab s.dp.toNat = 27 := tab_big (by omega)
    rw [e1, most_big (s := s) (by omega)]
    have h3 := shr_dp h (k := 27) (d := 8) (by decide)
    have h8 := most_le (shr s 27)
    have h9 := mtab_mono (a := (shr s 27).dp) (c := s.dp - 8) (by omega)
    have h10 : 27 + mtab (s.dp - 8) ≤ mtab s.dp := by
      have h1 := mtab_cases (s.dp - 8)
      have h2 := mtab_cases s.dp
      rcases h1 with h1 | h1 | h1 | h1 | h1 | h1 | h1 | h1 | h1 | h1 <;> omega
    omega
theorem Down.most {s : St} {e : Int} {a : St} {b : Int} (h : Down s e a b) : Ok s → Ok a ∧ b ≤ e + Fl.most s ∧ a.dp ≤ 0 := by
  induction h with
  | stop h0 => intro h; exact ⟨h, by have h1 := most_big (s := _) (fun h2 => by rw [h2] at h0; omega); rw [h1]; unfold mtab; rw [if_pos h0]; omega, h0⟩
  | step h0 _ ih =>
    intro h
    obtain ⟨a1, a2, a3⟩ := ih (shr_ok h _)
    have := most_step h h0
    exact ⟨a1, by omega, a3⟩
theorem Up.most {s : St} {e : Int} {a : St} {b : Int} (h : Up s e a b) : b ≤ e := by
  induction h with
  | stop _ => exact Int.le_refl _
  | step _ _ ih => omega
/-- A decimal of at most 31 digits ahead of its point is not too large. -/
theorem FBits.small {s : St} {o : Bool} (h : FBits s o) (hs : Ok s) (hdp : s.dp ≤ 31) : o = false := by
  unfold FBits at h
  rw [if_neg (by omega)] at h
  split at h
  · exact h
  · obtain ⟨a, b, a', b', d, u, t⟩ := h
    obtain ⟨_, h1, _⟩ := d.most hs
    have h2 := u.most
    have h3 : Fl.most s ≤ 110 := by
      have h4 := most_le s
      have h5 := mtab_mono (a := s.dp) (c := 31) hdp
      have e : mtab 31 = 110 := by decide
      omega
    split at t
    · unfold Tail at t
      rw [if_neg (by omega)] at t
      rw [t, show decide (127 ≤ (-126 : Int)) = false from rfl, Bool.and_false]
    · unfold Tail at t
      rw [if_neg (by omega)] at t
      rw [t, decide_eq_false (show ¬ 127 ≤ b' - 1 by omega), Bool.and_false]
end Go.Proofs.YtiebedcldbmlhaaDoor.Fl
