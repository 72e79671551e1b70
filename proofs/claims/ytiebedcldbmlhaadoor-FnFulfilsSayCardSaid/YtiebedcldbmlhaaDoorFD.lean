/-
  rightShift: how many digits fall away, and the first digit. Conditions: 1 ≤ k ≤ 60; numbers of just so many digits.
-/
import Derived.Test.YtiebedcldbmlhaaDoorFC
import Derived.Test.YtiebedcldbmlhaaDoorF1
import Derived.Laws.Bits64
namespace Go.Proofs.YtiebedcldbmlhaaDoor.Fl
open Go.RowKit
set_option linter.unusedVariables false

theorem and_mask {a k : Nat} (ha : a < 18446744073709551616) (hk : k ≤ 60) : bits .and .u64 (a : Int) (((2 ^ k - 1 : Nat)) : Int) = ((a % 2 ^ k : Nat) : Int) := by
  have hp : 2 ^ k ≤ 2 ^ 60 := Nat.pow_le_pow_right (by decide) hk
  have hp2 : (2 : Nat) ^ 60 = 1152921504606846976 := by decide
  have hp0 : 0 < 2 ^ k := Nat.pow_pos (by decide)
  have h1 : (BitVec.ofInt 64 (a : Int)).toNat = a := by
    rw [BitVec.ofInt_natCast, BitVec.toNat_ofNat]; exact Nat.mod_eq_of_lt (by omega)
  have h2 : (BitVec.ofInt 64 ((2 ^ k - 1 : Nat) : Int)).toNat = 2 ^ k - 1 := by
    rw [BitVec.ofInt_natCast, BitVec.toNat_ofNat]; exact Nat.mod_eq_of_lt (by omega)
  show IntKind.u64.wrap ((BitVec.ofInt 64 (a : Int) &&& BitVec.ofInt 64 ((2 ^ k - 1 : Nat) : Int)).toNat : Int) = _
  rw [BitVec.toNat_and, h1, h2, Nat.and_two_pow_sub_one_eq_mod]
  have h3 := Nat.mod_lt a hp0
  exact IntWalk.u64_in _ (by omega)

theorem pre_lt {D nd r : Nat} (h : r < nd) : pre D nd (r + 1) = 10 * pre D nd r + dgt D (nd - 1 - r) := by
  unfold pre
  rw [if_pos (by omega), if_pos (by omega)]
  have := div_step D (nd - (r + 1))
  rw [show nd - (r + 1) + 1 = nd - r by omega] at this
  rw [this, show nd - 1 - r = nd - (r + 1) by omega]
theorem pre_ge {D nd r : Nat} (h : nd ≤ r) : pre D nd (r + 1) = 10 * pre D nd r := by
  unfold pre
  rw [if_neg (by omega)]
  by_cases e : r ≤ nd
  · obtain rfl : r = nd := by omega
    rw [if_pos (Nat.le_refl _), Nat.sub_self, Nat.pow_zero, Nat.div_one, show r + 1 - r = 1 by omega, Nat.pow_one, Nat.mul_comm]
  · rw [if_neg e, show r + 1 - nd = (r - nd) + 1 by omega, Nat.pow_succ, ← Nat.mul_assoc, Nat.mul_comm]
theorem pre_zero {D nd : Nat} (h : D < 10 ^ nd) : pre D nd 0 = 0 := by
  unfold pre
  rw [if_pos (Nat.zero_le _), Nat.sub_zero]
  exact Nat.div_eq_of_lt h
theorem pre_all {D nd : Nat} : pre D nd nd = D := by
  unfold pre
  rw [if_pos (Nat.le_refl _), Nat.sub_self, Nat.pow_zero, Nat.div_one]
theorem pre_step {D nd r : Nat} : 10 * pre D nd r ≤ pre D nd (r + 1) ∧ pre D nd (r + 1) ≤ 10 * pre D nd r + 9 := by
  rcases Nat.lt_or_ge r nd with h | h
  · rw [pre_lt h]; have := dgt_lt D (nd - 1 - r); omega
  · rw [pre_ge h]; omega
theorem pre_low {D nd r : Nat} (h : Lead D nd) (h1 : 1 ≤ r) : 10 ^ (r - 1) ≤ pre D nd r := by
  unfold pre
  split
  · rename_i h2
    exact (lead_cut h h1 h2).low
  · rename_i h2
    have h3 := Nat.mul_le_mul_right (10 ^ (r - nd)) h.low
    rw [← Nat.pow_add, show nd - 1 + (r - nd) = r - 1 by have := h.one; omega] at h3
    exact h3
theorem pre_r {D nd r k : Nat} (h : Lead D nd) (h1 : 1 ≤ r) (hk : k ≤ 60) (hp : pre D nd (r - 1) < 2 ^ k) : r ≤ 20 := by
  rcases Nat.lt_or_ge r 21 with h2 | h2
  · omega
  · exfalso
    have h3 := pre_low h (r := r - 1) (by omega)
    have h4 : 10 ^ 19 ≤ 10 ^ (r - 1 - 1) := Nat.pow_le_pow_right (by decide) (by omega)
    have h5 : 2 ^ k ≤ 2 ^ 60 := Nat.pow_le_pow_right (by decide) hk
    have h6 : (2 : Nat) ^ 60 < 10 ^ 19 := by decide
    omega

/-- How often two divides a number. -/
def tzc : Nat → Nat → Nat
  | 0, _ => 0
  | f + 1, n => if n % 2 = 0 then tzc f (n / 2) + 1 else 0
theorem tzc_le : ∀ (f n : Nat), tzc f n ≤ f
  | 0, _ => Nat.le_refl _
  | f + 1, n => by
    unfold tzc
    split
    · have := tzc_le f (n / 2); omega
    · omega
theorem tzc_dvd : ∀ (f n : Nat), 2 ^ tzc f n ∣ n
  | 0, n => ⟨n, by simp [tzc]⟩
  | f + 1, n => by
    unfold tzc
    split
    · rename_i h
      obtain ⟨x, hx⟩ := tzc_dvd f (n / 2)
      refine ⟨x, ?_⟩
      rw [Nat.pow_succ, Nat.mul_right_comm, ← hx]
      omega
    · exact ⟨n, by simp⟩
theorem tzc_ge : ∀ (f j n : Nat), 2 ^ j ∣ n → j ≤ f → j ≤ tzc f n
  | _, 0, _, _, _ => Nat.zero_le _
  | 0, j + 1, _, _, h => by omega
  | f + 1, j + 1, n, hd, h => by
    obtain ⟨x, rfl⟩ := hd
    have e : 2 ^ (j + 1) * x = 2 * (2 ^ j * x) := by rw [Nat.pow_succ, Nat.mul_comm (2 ^ j) 2, Nat.mul_assoc]
    unfold tzc
    rw [if_pos (by rw [e]; omega), e]
    have := tzc_ge f j (2 ^ j * x) ⟨x, rfl⟩ (by omega)
    rw [show 2 * (2 ^ j * x) / 2 = 2 ^ j * x by omega]
    omega
def shrM (k n : Nat) : Nat := if n = 0 then 0 else k + 1 - tzc k n
theorem shrM_lt {k n : Nat} (h : n ≠ 0) : shrM k (n % 2 ^ k * 10) < shrM k n := by
  have h1 := tzc_le k n
  unfold shrM
  rw [if_neg h]
  split
  · omega
  · rename_i h2
    obtain ⟨x, hx⟩ := tzc_dvd k n
    have hj : tzc k n < k := by
      rcases Nat.lt_or_ge (tzc k n) k with h3 | h3
      · exact h3
      · exfalso
        have h4 : tzc k n = k := by omega
        rw [h4] at hx
        apply h2
        rw [hx, Nat.mul_mod_right, Nat.zero_mul]
    have hd : 2 ^ tzc k n ∣ n % 2 ^ k := by
      rw [Nat.dvd_mod_iff]
      · exact ⟨x, hx⟩
      · exact Nat.pow_dvd_pow 2 (by omega)
    obtain ⟨y, hy⟩ := hd
    have := tzc_ge k (tzc k n + 1) (n % 2 ^ k * 10) ⟨y * 5, by
      rw [hy, Nat.pow_succ]
      generalize 2 ^ tzc k n = p
      rw [Nat.mul_assoc, Nat.mul_assoc]
      congr 1
      omega⟩ (by omega)
    omega

/-- The memory while the digits are worked out from the left: ww digits of Q written, the old ones from rr on still to be read. -/
structure ShrM (w wx : World) (c D nd : Nat) (dp : Int) (tr : Bool) (T : TypeId) (rr ww Q : Nat) (cs : Array Value) : Prop where
  upd : Upd c w wx
  obj : wx.heap[c]? = some (.cells cs T (0, 0))
  raw : Raw cs
  cnd : cs[800]? = some (.int .i64 nd)
  cdp : cs[801]? = some (.int .i64 dp)
  ctr : cs[803]? = some (.bool tr)
  old : ∀ i, rr ≤ i → i < nd → cs[i]? = some (.int .u8 ((48 + dgt D (nd - 1 - i) : Nat) : Int))
  new : DigAt cs Q ww
  ww8 : ww ≤ 800
theorem dgt_snoc {Q x j : Nat} (hx : x < 10) : dgt (10 * Q + x) (j + 1) = dgt Q j ∧ dgt (10 * Q + x) 0 = x := by
  unfold dgt
  constructor
  · rw [Nat.pow_succ', ← Nat.div_div_eq_div_mul, show (10 * Q + x) / 10 = Q by omega]
  · simp; omega
theorem lead_snoc {Q ww x : Nat} (hx : x < 10) (h : (ww = 0 ∧ Q = 0 ∧ 1 ≤ x) ∨ Lead Q ww) : Lead (10 * Q + x) (ww + 1) := by
  rcases h with ⟨h0, h1, h2⟩ | h1
  · subst h0 h1
    exact ⟨by omega, by simpa using h2, by simpa using hx⟩
  · have hone := h1.one
    refine ⟨by omega, ?_, ?_⟩
    · have := h1.low
      rw [show ww + 1 - 1 = (ww - 1) + 1 by omega, Nat.pow_succ]
      omega
    · have := h1.up
      rw [Nat.pow_succ]
      omega
theorem ShrM.step {w wx : World} {c D nd : Nat} {dp : Int} {tr : Bool} {T : TypeId} {rr rr' ww Q x : Nat} {cs : Array Value} (h : ShrM w wx c D nd dp tr T rr ww Q cs) (hr : rr ≤ rr') (hw : ww < 800) (hlt : ww < rr' ∨ nd ≤ rr') (hx : x < 10) :
    ShrM w (wx.setCell ⟨c, ww, none⟩ (.int .u8 ((48 + x : Nat) : Int))) c D nd dp tr T rr' (ww + 1) (10 * Q + x) (cs.setIfInBounds ww (.int .u8 ((48 + x : Nat) : Int))) := by
  refine ⟨h.upd.set _ _, obj_set _ h.obj, h.raw.set hw (by omega), by rw [set_other (by omega)]; exact h.cnd, by rw [set_other (by omega)]; exact h.cdp, by rw [set_other (by omega)]; exact h.ctr, fun i h1 h2 => ?_, fun i hi => ?_, by omega⟩
  · rw [set_other (by omega)]; exact h.old i (by omega) h2
  · by_cases e : ww = i
    · subst e
      rw [show ww + 1 - 1 - ww = 0 by omega, (dgt_snoc hx (j := 0)).2]
      exact set_same (by rw [h.raw.size]; omega)
    · rw [set_other e, show ww + 1 - 1 - i = (ww - 1 - i) + 1 by omega, (dgt_snoc hx).1]
      exact h.new i (by omega)
theorem ShrM.tru {w wx : World} {c D nd : Nat} {dp : Int} {tr : Bool} {T : TypeId} {rr ww Q : Nat} {cs : Array Value} (h : ShrM w wx c D nd dp tr T rr ww Q cs) (hn : nd ≤ 800) (b : Bool) :
    ShrM w (wx.setCell ⟨c, 803, none⟩ (.bool b)) c D nd dp b T rr ww Q (cs.setIfInBounds 803 (.bool b)) :=
  ⟨h.upd.set _ _, obj_set _ h.obj, h.raw.setTr b, by rw [set_other (by omega)]; exact h.cnd, by rw [set_other (by omega)]; exact h.cdp, set_same (by rw [h.raw.size]; omega), fun i h1 h2 => by rw [set_other (by omega)]; exact h.old i h1 h2,
    fun i hi => by rw [set_other (by have := h.ww8; omega)]; exact h.new i hi, h.ww8⟩
theorem ShrM.rr {w wx : World} {c D nd : Nat} {dp : Int} {tr : Bool} {T : TypeId} {rr rr' ww Q : Nat} {cs : Array Value} (h : ShrM w wx c D nd dp tr T rr ww Q cs) (hr : rr ≤ rr') : ShrM w wx c D nd dp tr T rr' ww Q cs :=
  ⟨h.upd, h.obj, h.raw, h.cnd, h.cdp, h.ctr, fun i h1 h2 => h.old i (by omega) h2, h.new, h.ww8⟩

theorem pre_big {D nd r : Nat} (h : nd ≤ r) : pre D nd r = D * 10 ^ (r - nd) := by
  unfold pre
  by_cases e : r ≤ nd
  · obtain rfl : r = nd := by omega
    rw [if_pos (Nat.le_refl _), Nat.sub_self, Nat.pow_zero, Nat.div_one, Nat.mul_one]
  · rw [if_neg e]
/-- The quotient while its digits are worked out: QQ has j digits more than Q, which is written. -/
structure Gh (D nd p r0 : Nat) (tr : Bool) (ww j a Q QQ : Nat) (t : Bool) : Prop where
  j8 : j = 0 ∨ ww = 800
  q : Q = QQ / 10 ^ j
  t : t = (tr || decide (QQ % 10 ^ j ≠ 0))
  le : nd ≤ r0 + ww + j
  eq : D * 10 ^ (r0 + ww + j - nd) = 10 * QQ * p + a
  lead : (ww = 0 ∧ QQ = 0 ∧ j = 0 ∧ p ≤ a) ∨ Lead QQ (ww + j)
theorem gh_eq {E QQ p a g lo : Nat} (h : E = 10 * QQ * p + a) (ha : a = g * p + lo) : E * 10 = 10 * (10 * QQ + g) * p + lo * 10 := by
  rw [h, ha, Nat.mul_add 10 (10 * QQ) g, Nat.add_mul (10 * (10 * QQ)) (10 * g) p]
  have e1 : 10 * (10 * QQ) * p = 10 * (10 * QQ * p) := by rw [Nat.mul_assoc 10 (10 * QQ) p]
  have e2 : 10 * g * p = 10 * (g * p) := Nat.mul_assoc ..
  rw [e1, e2]
  omega
theorem Gh.lead' {D nd p r0 : Nat} {tr : Bool} {ww j a Q QQ : Nat} {t : Bool} (h : Gh D nd p r0 tr ww j a Q QQ t) {g lo : Nat} (hp : 0 < p) (ha : a = g * p + lo) (hlo : lo < p) : (ww + j = 0 ∧ QQ = 0 ∧ 1 ≤ g) ∨ Lead QQ (ww + j) := by
  rcases h.lead with ⟨h1, h2, h3, h4⟩ | h1
  · refine .inl ⟨by omega, h2, ?_⟩
    rcases Nat.eq_zero_or_pos g with h5 | h5
    · subst h5; rw [Nat.zero_mul] at ha; omega
    · exact h5
  · exact .inr h1
theorem Gh.put {D nd p r0 : Nat} {tr : Bool} {ww j a Q QQ : Nat} {t : Bool} (h : Gh D nd p r0 tr ww j a Q QQ t) (hw : ww < 800) {g lo : Nat} (hp : 0 < p) (ha : a = g * p + lo) (hlo : lo < p) (hg : g < 10) :
    Gh D nd p r0 tr (ww + 1) j (lo * 10) (10 * Q + g) (10 * QQ + g) t := by
  have hj : j = 0 := by have := h.j8; omega
  have hl := h.lead' hp ha hlo
  subst hj
  refine ⟨.inl rfl, ?_, ?_, by have := h.le; omega, ?_, .inr ?_⟩
  · have := h.q; rw [Nat.pow_zero, Nat.div_one] at this ⊢; rw [this]
  · have := h.t; rw [Nat.pow_zero, Nat.mod_one] at this ⊢; exact this
  · have h1 := h.le
    rw [show r0 + (ww + 1) + 0 - nd = (r0 + ww + 0 - nd) + 1 by omega, Nat.pow_succ, ← Nat.mul_assoc]
    exact gh_eq h.eq ha
  · exact lead_snoc hg hl
theorem Gh.drop {D nd p r0 : Nat} {tr : Bool} {ww j a Q QQ : Nat} {t : Bool} (h : Gh D nd p r0 tr ww j a Q QQ t) (hw : ¬ ww < 800) (hw8 : ww ≤ 800) {g lo : Nat} (hp : 0 < p) (ha : a = g * p + lo) (hlo : lo < p) (hg : g < 10) :
    Gh D nd p r0 tr ww (j + 1) (lo * 10) Q (10 * QQ + g) (t || decide (g ≠ 0)) := by
  have hl := h.lead' hp ha hlo
  have e1 : 10 ^ (j + 1) = 10 * 10 ^ j := Nat.pow_succ'
  refine ⟨.inr (by omega), ?_, ?_, by have := h.le; omega, ?_, .inr ?_⟩
  · rw [e1, ← Nat.div_div_eq_div_mul, show (10 * QQ + g) / 10 = QQ by omega]; exact h.q
  · rw [h.t]
    have e2 : (10 * QQ + g) % 10 ^ (j + 1) = 10 * (QQ % 10 ^ j) + g := by
      rw [e1, Nat.mod_mul, show (10 * QQ + g) % 10 = g by omega, show (10 * QQ + g) / 10 = QQ by omega, Nat.add_comm]
    rw [e2]
    by_cases h1 : QQ % 10 ^ j = 0
    · by_cases h2 : g = 0
      · simp [h1, h2]
      · have : 10 * (QQ % 10 ^ j) + g ≠ 0 := by omega
        simp [h1, h2]
    · have : 10 * (QQ % 10 ^ j) + g ≠ 0 := by omega
      rw [decide_eq_true this, decide_eq_true h1]; simp
  · have h1 := h.le
    rw [show r0 + ww + (j + 1) - nd = (r0 + ww + j - nd) + 1 by omega, Nat.pow_succ, ← Nat.mul_assoc]
    exact gh_eq h.eq ha
  · exact lead_snoc hg hl
theorem rsh_fin {D nd k r0 ww j Q QQ : Nat} {tr t : Bool} {dp : Int} (hD : Lead D nd) (hw : ww ≤ 800) (h : Gh D nd (2 ^ k) r0 tr ww j 0 Q QQ t) :
    shr ⟨D, nd, dp, tr⟩ k = ⟨(norm ww Q).1, (norm ww Q).2, dp - ((r0 : Int) - 1), t⟩ := by
  have hQ : Lead QQ (ww + j) := by
    rcases h.lead with ⟨_, _, _, h4⟩ | h1
    · have := Nat.pow_pos (n := k) (show 0 < 2 by decide); omega
    · exact h1
  have hN0 : 0 < D * 5 ^ k := Nat.mul_pos (lead_pos hD) (Nat.pow_pos (by decide))
  have hL := lead_nlen hN0
  have hn : shr ⟨D, nd, dp, tr⟩ k = cut (D * 5 ^ k) (nlen (D * 5 ^ k)) (dp + nlen (D * 5 ^ k) - nd - k) tr := rfl
  rw [hn]
  generalize nlen (D * 5 ^ k) = L at hL ⊢
  obtain ⟨R, hR⟩ : ∃ R, R = r0 + ww + j - nd := ⟨_, rfl⟩
  have heq := h.eq
  rw [← hR] at heq
  have hN : D * 5 ^ k * 10 ^ R = QQ * 10 ^ (k + 1) := by
    have e1 : D * 5 ^ k * 10 ^ R = D * 10 ^ R * 5 ^ k := Nat.mul_right_comm ..
    have e2 : (10 : Nat) ^ (k + 1) = 10 * (2 ^ k * 5 ^ k) := by rw [← Nat.mul_pow, Nat.pow_succ']
    rw [e1, heq, Nat.add_zero, e2, Nat.mul_assoc, Nat.mul_assoc, ← Nat.mul_assoc QQ 10, Nat.mul_comm QQ 10, Nat.mul_assoc]
  have hlen : L + R = ww + j + (k + 1) := lead_uniq (D := D * 5 ^ k * 10 ^ R) (lead_scale hL R) (by rw [hN]; exact lead_scale hQ (k + 1))
  have hle := h.le
  have hx : dp + (L : Int) - (nd : Int) - (k : Int) = dp - ((r0 : Int) - 1) := by omega
  rw [hx, ← cut_scale R, hlen, hN, cut_scale]
  unfold cut
  have hj8 := h.j8
  by_cases h8 : ww = 800
  · rw [if_pos (by omega), show ww + j - 800 = j by omega, ← h.q, ← h.t, h8]
  · have hj : j = 0 := by omega
    subst hj
    have hq := h.q
    have ht := h.t
    rw [Nat.pow_zero, Nat.div_one] at hq
    rw [Nat.pow_zero, Nat.mod_one] at ht
    rw [if_neg (by omega), ← hq, Nat.add_zero, ht]
    simp
theorem Gh.written {D nd p r0 : Nat} {tr : Bool} {ww j Q QQ : Nat} {t : Bool} (h : Gh D nd p r0 tr ww j 0 Q QQ t) (hp : 0 < p) (hw : ww ≤ 800) : Lead Q ww := by
  have hl : Lead QQ (ww + j) := by
    rcases h.lead with ⟨_, _, _, h4⟩ | h1
    · omega
    · exact h1
  have h1 := hl.one
  have h2 := h.j8
  have := lead_cut hl (m := ww) (by omega) (by omega)
  rw [show ww + j - ww = j by omega, ← h.q] at this
  exact this
/-- The quotient while there are digits to be read. -/
structure FirstQ (D nd p rr ww a Q : Nat) : Prop where
  eq : pre D nd rr = 10 * Q * p + a
  lead : (ww = 0 ∧ Q = 0 ∧ p ≤ a) ∨ Lead Q ww
theorem FirstQ.step {D nd p rr ww a Q g lo b : Nat} (h : FirstQ D nd p rr ww a Q) (hr : rr < nd) (hp : 0 < p) (ha : a = g * p + lo) (hlo : lo < p) (hg : g < 10) (hb : b = lo * 10 + dgt D (nd - 1 - rr)) : FirstQ D nd p (rr + 1) (ww + 1) b (10 * Q + g) := by
  refine ⟨?_, .inr (lead_snoc hg ?_)⟩
  · have := gh_eq h.eq ha
    rw [pre_lt hr, hb]
    omega
  · rcases h.lead with ⟨h1, h2, h3⟩ | h1
    · refine .inl ⟨h1, h2, ?_⟩
      rcases Nat.eq_zero_or_pos g with h5 | h5
      · subst h5; rw [Nat.zero_mul] at ha; omega
      · exact h5
    · exact .inr h1
theorem FirstQ.gh {D nd p rr ww a Q r0 : Nat} {tr : Bool} (h : FirstQ D nd p rr ww a Q) (hww : rr = r0 + ww) (hge : nd ≤ rr) : Gh D nd p r0 tr ww 0 a Q Q tr := by
  subst hww
  refine ⟨.inl rfl, by simp, by rw [Nat.pow_zero, Nat.mod_one]; simp, by omega, ?_, ?_⟩
  · rw [Nat.add_zero, ← pre_big hge]; exact h.eq
  · rcases h.lead with ⟨h1, h2, h3⟩ | h1
    · exact .inl ⟨h1, h2, rfl, h3⟩
    · exact .inr h1
end Go.Proofs.YtiebedcldbmlhaaDoor.Fl
