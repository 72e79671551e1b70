/-
  Joined: rightShift: how many digits fall away, and the first digit; rightShift, walked.
  Conditions: each law's own.
-/
import Derived.Test.YtiebedcldbmlhaaGreatDoorK03
import Derived.Test.YtiebedcldbmlhaaGreatDoorK01
import Derived.Laws.Bits64
namespace Go.Proofs.YtiebedcldbmlhaaGreatDoor.Fl
open Go.RowKit
set_option linter.unusedVariables false

theorem and_mask {a k : Nat} (ha : a < 18446744073709551616) (hk : k ≤ 60) : bits .and .u64 (a : Int) (((2 ^ k - 1 : Nat)) : Int) = ((a % 2 ^ k : Nat) : Int) := by
  have hp : 2 ^ k ≤ 2 ^ 60 := Nat.pow_le_pow_right (by decide) hk
  have hp2 : (2 : Nat) ^ 60 = 1152921504606846976 := by decide
  have hp0 : 0 < 2 ^ k := Nat.pow_pos (by decide)
  have h1 : (BitVec.ofInt 64 (a : Int)).toNat = a := by
    rw [BitVec.ofInt_natCast, BitVec.toNat_ofNat]; exact Nat.mod_eq_of_lt (by omega)
  have h2 : (BitVec.ofInt 64 ((2 ^ k - 1 : Nat) : Int)).toNat = 2 ^ k - 1 := by
    rw [BitVec.ofInt_natCast, BitVec.toNat_ofNat]; exact Nat.mod_eq_of_lt (by omega)
  show IntKind.u64.wrap ((BitVec.ofInt 64 (a : Int) &&& BitVec.ofInt 64 ((2 ^ k - 1 : Nat) : Int)).toNat : Int) = _
  rw [BitVec.toNat_and, h1, h2, Nat.and_two_pow_sub_one_eq_mod]
  have h3 := Nat.mod_lt a hp0
  exact IntWalk.u64_in _ (by omega)

theorem pre_lt {D nd r : Nat} (h : r < nd) : pre D nd (r + 1) = 10 * pre D nd r + dgt D (nd - 1 - r) := by
  unfold pre
  rw [if_pos (by omega), if_pos (by omega)]
  have := div_step D (nd - (r + 1))
  rw [show nd - (r + 1) + 1 = nd - r by omega] at this
  rw [this, show nd - 1 - r = nd - (r + 1) by omega]
theorem pre_ge {D nd r : Nat} (h : nd ≤ r) : pre D nd (r + 1) = 10 * pre D nd r := by
  unfold pre
  rw [if_neg (by omega)]
  by_cases e : r ≤ nd
  · obtain rfl : r = nd := by omega
    rw [if_pos (Nat.le_refl _), Nat.sub_self, Nat.pow_zero, Nat.div_one, show r + 1 - r = 1 by omega, Nat.pow_one, Nat.mul_comm]
  · rw [if_neg e, show r + 1 - nd = (r - nd) + 1 by omega, Nat.pow_succ, ← Nat.mul_assoc, Nat.mul_comm]
theorem pre_zero {D nd : Nat} (h : D < 10 ^ nd) : pre D nd 0 = 0 := by
  unfold pre
  rw [if_pos (Nat.zero_le _), Nat.sub_zero]
  exact Nat.div_eq_of_lt h
theorem pre_all {D nd : Nat} : pre D nd nd = D := by
  unfold pre
  rw [if_pos (Nat.le_refl _), Nat.sub_self, Nat.pow_zero, Nat.div_one]
theorem pre_step {D nd r : Nat} : 10 * pre D nd r ≤ pre D nd (r + 1) ∧ pre D nd (r + 1) ≤ 10 * pre D nd r + 9 := by
  rcases Nat.lt_or_ge r nd with h | h
  · rw [pre_lt h]; have := dgt_lt D (nd - 1 - r); omega
  · rw [pre_ge h]; omega
theorem pre_low {D nd r : Nat} (h : Lead D nd) (h1 : 1 ≤ r) : 10 ^ (r - 1) ≤ pre D nd r := by
  unfold pre
  split
  · rename_i h2
    exact (lead_cut h h1 h2).low
  · rename_i h2
    have h3 := Nat.mul_le_mul_right (10 ^ (r - nd)) h.low
    rw [← Nat.pow_add, show nd - 1 + (r - nd) = r - 1 by have := h.one; omega] at h3
    exact h3
theorem pre_r {D nd r k : Nat} (h : Lead D nd) (h1 : 1 ≤ r) (hk : k ≤ 60) (hp : pre D nd (r - 1) < 2 ^ k) : r ≤ 20 := by
  rcases Nat.lt_or_ge r 21 with h2 | h2
  · omega
  · exfalso
    have h3 := pre_low h (r := r - 1) (by omega)
    have h4 : 10 ^ 19 ≤ 10 ^ (r - 1 - 1) := Nat.pow_le_pow_right (by decide) (by omega)
    have h5 : 2 ^ k ≤ 2 ^ 60 := Nat.pow_le_pow_right (by decide) hk
    have h6 : (2 : Nat) ^ 60 < 10 ^ 19 := by decide
    omega

/-- How often two divides a number. -/
def tzc : Nat → Nat → Nat
  | 0, _ => 0
  | f + 1, n => if n % 2 = 0 then tzc f (n / 2) + 1 else 0
theorem tzc_le : ∀ (f n : Nat), tzc f n ≤ f
  | 0, _ => Nat.le_refl _
  | f + 1, n => by
    unfold tzc
    split
    · have := tzc_le f (n / 2); omega
    · omega
theorem tzc_dvd : ∀ (f n : Nat), 2 ^ tzc f n ∣ n
  | 0, n => ⟨n, by simp [tzc]⟩
  | f + 1, n => by
    unfold tzc
    split
    · rename_i h
      obtain ⟨x, hx⟩ := tzc_dvd f (n / 2)
      refine ⟨x, ?_⟩
      rw [Nat.pow_succ, Nat.mul_right_comm, ← hx]
      omega
    · exact ⟨n, by simp⟩
theorem tzc_ge : ∀ (f j n : Nat), 2 ^ j ∣ n → j ≤ f → j ≤ tzc f n
  | _, 0, _, _, _ => Nat.zero_le _
  | 0, j + 1, _, _, h => by omega
  | f + 1, j + 1, n, hd, h => by
    obtain ⟨x, rfl⟩ := hd
    have e : 2 ^ (j + 1) * x = 2 * (2 ^ j * x) := by rw [Nat.pow_succ, Nat.mul_comm (2 ^ j) 2, Nat.mul_assoc]
    unfold tzc
    rw [if_pos (by rw [e]; omega), e]
    have := tzc_ge f j (2 ^ j * x) ⟨x, rfl⟩ (by omega)
    rw [show 2 * (2 ^ j * x) / 2 = 2 ^ j * x by omega]
    omega
def shrM (k n : Nat) : Nat := if n = 0 then 0 else k + 1 - tzc k n
theorem shrM_lt {k n : Nat} (h : n ≠ 0) : shrM k (n % 2 ^ k * 10) < shrM k n := by
  have h1 := tzc_le k n
  unfold shrM
  rw [if_neg h]
  split
  · omega
  · rename_i h2
    obtain ⟨x, hx⟩ := tzc_dvd k n
    have hj : tzc k n < k := by
      rcases Nat.lt_or_ge (tzc k n) k with h3 | h3
      · exact h3
      · exfalso
        have h4 : tzc k n = k := by omega
        rw [h4] at hx
        apply h2
        rw [hx, Nat.mul_mod_right, Nat.zero_mul]
    have hd : 2 ^ tzc k n ∣ n % 2 ^ k := by
      rw [Nat.dvd_mod_iff]
      · exact ⟨x, hx⟩
      · exact Nat.pow_dvd_pow 2 (by omega)
    obtain ⟨y, hy⟩ := hd
    have := tzc_ge k (tzc k n + 1) (n % 2 ^ k * 10) ⟨y * 5, by
      rw [hy, Nat.pow_succ]
      generalize 2 ^ tzc k n = p
      rw [Nat.mul_assoc, Nat.mul_assoc]
      congr 1
      omega⟩ (by omega)
    omega

/-- The memory while the digits are worked out from the left: ww digits of Q written, the old ones from rr on still to be read. -/
structure ShrM (w wx : World) (c D nd : Nat) (dp : Int) (tr : Bool) (T : TypeId) (rr ww Q : Nat) (cs : Array Value) : Prop where
  upd : Upd c w wx
  obj : wx.heap[c]? = some (.cells cs T (0, 0))
  raw : Raw cs
  cnd : cs[800]? = some (.int .i64 nd)
  cdp : cs[801]? = some (.int .i64 dp)
  ctr : cs[803]? = some (.bool tr)
  old : ∀ i, rr ≤ i → i < nd → cs[i]? = some (.int .u8 ((48 + dgt D (nd - 1 - i) : Nat) : Int))
  new : DigAt cs Q ww
  ww8 : ww ≤ 800
theorem dgt_snoc {Q x j : Nat} (hx : x < 10) : dgt (10 * Q + x) (j + 1) = dgt Q j ∧ dgt (10 * Q + x) 0 = x := by
  unfold dgt
  constructor
  · rw [Nat.pow_succ', ← Nat.div_div_eq_div_mul, show (10 * Q + x) / 10 = Q by omega]
  · simp; omega
theorem lead_snoc {Q ww x : Nat} (hx : x < 10) (h : (ww = 0 ∧ Q = 0 ∧ 1 ≤ x) ∨ Lead Q ww) : Lead (10 * Q + x) (ww + 1) := by
  rcases h with ⟨h0, h1, h2⟩ | h1
  · subst h0 h1
    exact ⟨by omega, by simpa using h2, by simpa using hx⟩
  · have hone := h1.one
    refine ⟨by omega, ?_, ?_⟩
    · have := h1.low
      rw [show ww + 1 - 1 = (ww - 1) + 1 by omega, Nat.pow_succ]
      omega
    · have := h1.up
      rw [Nat.pow_succ]
      omega
theorem ShrM.step {w wx : World} {c D nd : Nat} {dp : Int} {tr : Bool} {T : TypeId} {rr rr' ww Q x : Nat} {cs : Array Value} (h : ShrM w wx c D nd dp tr T rr ww Q cs) (hr : rr ≤ rr') (hw : ww < 800) (hlt : ww < rr' ∨ nd ≤ rr') (hx : x < 10) :
    ShrM w (wx.setCell ⟨c, ww, none⟩ (.int .u8 ((48 + x : Nat) : Int))) c D nd dp tr T rr' (ww + 1) (10 * Q + x) (cs.setIfInBounds ww (.int .u8 ((48 + x : Nat) : Int))) := by
  refine ⟨h.upd.set _ _, obj_set _ h.obj, h.raw.set hw (by omega), by rw [set_other (by omega)]; exact h.cnd, by rw [set_other (by omega)]; exact h.cdp, by rw [set_other (by omega)]; exact h.ctr, fun i h1 h2 => ?_, fun i hi => ?_, by omega⟩
  · rw [set_other (by omega)]; exact h.old i (by omega) h2
  · by_cases e : ww = i
    · subst e
      rw [show ww + 1 - 1 - ww = 0 by omega, (dgt_snoc hx (j := 0)).2]
      exact set_same (by rw [h.raw.size]; omega)
    · rw [set_other e, show ww + 1 - 1 - i = (ww - 1 - i) + 1 by omega, (dgt_snoc hx).1]
      exact h.new i (by omega)
theorem ShrM.tru {w wx : World} {c D nd : Nat} {dp : Int} {tr : Bool} {T : TypeId} {rr ww Q : Nat} {cs : Array Value} (h : ShrM w wx c D nd dp tr T rr ww Q cs) (hn : nd ≤ 800) (b : Bool) :
    ShrM w (wx.setCell ⟨c, 803, none⟩ (.bool b)) c D nd dp b T rr ww Q (cs.setIfInBounds 803 (.bool b)) :=
  ⟨h.upd.set _ _, obj_set _ h.obj, h.raw.setTr b, by rw [set_other (by omega)]; exact h.cnd, by rw [set_other (by omega)]; exact h.cdp, set_same (by rw [h.raw.size]; omega), fun i h1 h2 => by rw [set_other (by omega)]; exact h.old i h1 h2,
    fun i hi => by rw [set_other (by have := h.ww8; omega)]; exact h.new i hi, h.ww8⟩
theorem ShrM.rr {w wx : World} {c D nd : Nat} {dp : Int} {tr : Bool} {T : TypeId} {rr rr' ww Q : Nat} {cs : Array Value} (h : ShrM w wx c D nd dp tr T rr ww Q cs) (hr : rr ≤ rr') : ShrM w wx c D nd dp tr T rr' ww Q cs :=
  ⟨h.upd, h.obj, h.raw, h.cnd, h.cdp, h.ctr, fun i h1 h2 => h.old i (by omega) h2, h.new, h.ww8⟩

theorem pre_big {D nd r : Nat} (h : nd ≤ r) : pre D nd r = D * 10 ^ (r - nd) := by
  unfold pre
  by_cases e : r ≤ nd
  · obtain rfl : r = nd := by omega
    rw [if_pos (Nat.le_refl _), Nat.sub_self, Nat.pow_zero, Nat.div_one, Nat.mul_one]
  · rw [if_neg e]
/-- The quotient while its digits are worked out: QQ has j digits more than Q, which is written. -/
structure Gh (D nd p r0 : Nat) (tr : Bool) (ww j a Q QQ : Nat) (t : Bool) : Prop where
  j8 : j = 0 ∨ ww = 800
  q : Q = QQ / 10 ^ j
  t : t = (tr || decide (QQ % 10 ^ j ≠ 0))
  le : nd ≤ r0 + ww + j
  eq : D * 10 ^ (r0 + ww + j - nd) = 10 * QQ * p + a
  lead : (ww = 0 ∧ QQ = 0 ∧ j = 0 ∧ p ≤ a) ∨ Lead QQ (ww + j)
theorem gh_eq {E QQ p a g lo : Nat} (h : E = 10 * QQ * p + a) (ha : a = g * p + lo) : E * 10 = 10 * (10 * QQ + g) * p + lo * 10 := by
  rw [h, ha, Nat.mul_add 10 (10 * QQ) g, Nat.add_mul (10 * (10 * QQ)) (10 * g) p]
  have e1 : 10 * (10 * QQ) * p = 10 * (10 * QQ * p) := by rw [Nat.mul_assoc 10 (10 * QQ) p]
  have e2 : 10 * g * p = 10 * (g * p) := Nat.mul_assoc ..
  rw [e1, e2]
  omega
theorem Gh.lead' {D nd p r0 : Nat} {tr : Bool} {ww j a Q QQ : Nat} {t : Bool} (h : Gh D nd p r0 tr ww j a Q QQ t) {g lo : Nat} (hp : 0 < p) (ha : a = g * p + lo) (hlo : lo < p) : (ww + j = 0 ∧ QQ = 0 ∧ 1 ≤ g) ∨ Lead QQ (ww + j) := by
  rcases h.lead with ⟨h1, h2, h3, h4⟩ | h1
  · refine .inl ⟨by omega, h2, ?_⟩
    rcases Nat.eq_zero_or_pos g with h5 | h5
    · subst h5; rw [Nat.zero_mul] at ha; omega
    · exact h5
  · exact .inr h1
theorem Gh.put {D nd p r0 : Nat} {tr : Bool} {ww j a Q QQ : Nat} {t : Bool} (h : Gh D nd p r0 tr ww j a Q QQ t) (hw : ww < 800) {g lo : Nat} (hp : 0 < p) (ha : a = g * p + lo) (hlo : lo < p) (hg : g < 10) :
    Gh D nd p r0 tr (ww + 1) j (lo * 10) (10 * Q + g) (10 * QQ + g) t := by
  have hj : j = 0 := by have := h.j8; omega
  have hl := h.lead' hp ha hlo
  subst hj
  refine ⟨.inl rfl, ?_, ?_, by have := h.le; omega, ?_, .inr ?_⟩
  · have := h.q; rw [Nat.pow_zero, Nat.div_one] at this ⊢; rw [this]
  · have := h.t; rw [Nat.pow_zero, Nat.mod_one] at this ⊢; exact this
  · have h1 := h.le
    rw [show r0 + (ww + 1) + 0 - nd = (r0 + ww + 0 - nd) + 1 by omega, Nat.pow_succ, ← Nat.mul_assoc]
    exact gh_eq h.eq ha
  · exact lead_snoc hg hl
theorem Gh.drop {D nd p r0 : Nat} {tr : Bool} {ww j a Q QQ : Nat} {t : Bool} (h : Gh D nd p r0 tr ww j a Q QQ t) (hw : ¬ ww < 800) (hw8 : ww ≤ 800) {g lo : Nat} (hp : 0 < p) (ha : a = g * p + lo) (hlo : lo < p) (hg : g < 10) :
    Gh D nd p r0 tr ww (j + 1) (lo * 10) Q (10 * QQ + g) (t || decide (g ≠ 0)) := by
  have hl := h.lead' hp ha hlo
  have e1 : 10 ^ (j + 1) = 10 * 10 ^ j := Nat.pow_succ'
  refine ⟨.inr (by omega), ?_, ?_, by have := h.le; omega, ?_, .inr ?_⟩
  · rw [e1, ← Nat.div_div_eq_div_mul, show (10 * QQ + g) / 10 = QQ by omega]; exact h.q
  · rw [h.t]
    have e2 : (10 * QQ + g) % 10 ^ (j + 1) = 10 * (QQ % 10 ^ j) + g := by
      rw [e1, Nat.mod_mul, show (10 * QQ + g) % 10 = g by omega, show (10 * QQ + g) / 10 = QQ by omega, Nat.add_comm]
    rw [e2]
    by_cases h1 : QQ % 10 ^ j = 0
    · by_cases h2 : g = 0
      · simp [h1, h2]
      · have : 10 * (QQ % 10 ^ j) + g ≠ 0 := by omega
        simp [h1, h2]
    · have : 10 * (QQ % 10 ^ j) + g ≠ 0 := by omega
      rw [decide_eq_true this, decide_eq_true h1]; simp
  · have h1 := h.le
    rw [show r0 + ww + (j + 1) - nd = (r0 + ww + j - nd) + 1 by omega, Nat.pow_succ, ← Nat.mul_assoc]
    exact gh_eq h.eq ha
  · exact lead_snoc hg hl
theorem rsh_fin {D nd k r0 ww j Q QQ : Nat} {tr t : Bool} {dp : Int} (hD : Lead D nd) (hw : ww ≤ 800) (h : Gh D nd (2 ^ k) r0 tr ww j 0 Q QQ t) :
    shr ⟨D, nd, dp, tr⟩ k = ⟨(norm ww Q).1, (norm ww Q).2, dp - ((r0 : Int) - 1), t⟩ := by
  have hQ : Lead QQ (ww + j) := by
    rcases h.lead with ⟨_, _, _, h4⟩ | h1
    · have := Nat.pow_pos (n := k) (show 0 < 2 by decide); omega
    · exact h1
  have hN0 : 0 < D * 5 ^ k := Nat.mul_pos (lead_pos hD) (Nat.pow_pos (by decide))
  have hL := lead_nlen hN0
  have hn : shr ⟨D, nd, dp, tr⟩ k = cut (D * 5 ^ k) (nlen (D * 5 ^ k)) (dp + nlen (D * 5 ^ k) - nd - k) tr := rfl
  rw [hn]
  generalize nlen (D * 5 ^ k) = L at hL ⊢
  obtain ⟨R, hR⟩ : ∃ R, R = r0 + ww + j - nd := ⟨_, rfl⟩
  have heq := h.eq
  rw [← hR] at heq
  have hN : D * 5 ^ k * 10 ^ R = QQ * 10 ^ (k + 1) := by
    have e1 : D * 5 ^ k * 10 ^ R = D * 10 ^ R * 5 ^ k := Nat.mul_right_comm ..
    have e2 : (10 : Nat) ^ (k + 1) = 10 * (2 ^ k * 5 ^ k) := by rw [← Nat.mul_pow, Nat.pow_succ']
    rw [e1, heq, Nat.add_zero, e2, Nat.mul_assoc, Nat.mul_assoc, ← Nat.mul_assoc QQ 10, Nat.mul_comm QQ 10, Nat.mul_assoc]
  have hlen : L + R = ww + j + (k + 1) := lead_uniq (D := D * 5 ^ k * 10 ^ R) (lead_scale hL R) (by rw [hN]; exact lead_scale hQ (k + 1))
  have hle := h.le
  have hx : dp + (L : Int) - (nd : Int) - (k : Int) = dp - ((r0 : Int) - 1) := by omega
  rw [hx, ← cut_scale R, hlen, hN, cut_scale]
  unfold cut
  have hj8 := h.j8
  by_cases h8 : ww = 800
  · rw [if_pos (by omega), show ww + j - 800 = j by omega, ← h.q, ← h.t, h8]
  · have hj : j = 0 := by omega
    subst hj
    have hq := h.q
    have ht := h.t
    rw [Nat.pow_zero, Nat.div_one] at hq
    rw [Nat.pow_zero, Nat.mod_one] at ht
    rw [if_neg (by omega), ← hq, Nat.add_zero, ht]
    simp
theorem Gh.written {D nd p r0 : Nat} {tr : Bool} {ww j Q QQ : Nat} {t : Bool} (h : Gh D nd p r0 tr ww j 0 Q QQ t) (hp : 0 < p) (hw : ww ≤ 800) : Lead Q ww := by
  have hl : Lead QQ (ww + j) := by
    rcases h.lead with ⟨_, _, _, h4⟩ | h1
    · omega
    · exact h1
  have h1 := hl.one
  have h2 := h.j8
  have := lead_cut hl (m := ww) (by omega) (by omega)
  rw [show ww + j - ww = j by omega, ← h.q] at this
  exact this
/-- The quotient while there are digits to be read. -/
structure FirstQ (D nd p rr ww a Q : Nat) : Prop where
  eq : pre D nd rr = 10 * Q * p + a
  lead : (ww = 0 ∧ Q = 0 ∧ p ≤ a) ∨ Lead Q ww
theorem FirstQ.step {D nd p rr ww a Q g lo b : Nat} (h : FirstQ D nd p rr ww a Q) (hr : rr < nd) (hp : 0 < p) (ha : a = g * p + lo) (hlo : lo < p) (hg : g < 10) (hb : b = lo * 10 + dgt D (nd - 1 - rr)) : FirstQ D nd p (rr + 1) (ww + 1) b (10 * Q + g) := by
  refine ⟨?_, .inr (lead_snoc hg ?_)⟩
  · have := gh_eq h.eq ha
    rw [pre_lt hr, hb]
    omega
  · rcases h.lead with ⟨h1, h2, h3⟩ | h1
    · refine .inl ⟨h1, h2, ?_⟩
      rcases Nat.eq_zero_or_pos g with h5 | h5
      · subst h5; rw [Nat.zero_mul] at ha; omega
      · exact h5
    · exact .inr h1
theorem FirstQ.gh {D nd p rr ww a Q r0 : Nat} {tr : Bool} (h : FirstQ D nd p rr ww a Q) (hww : rr = r0 + ww) (hge : nd ≤ rr) : Gh D nd p r0 tr ww 0 a Q Q tr := by
  subst hww
  refine ⟨.inl rfl, by simp, by rw [Nat.pow_zero, Nat.mod_one]; simp, by omega, ?_, ?_⟩
  · rw [Nat.add_zero, ← pre_big hge]; exact h.eq
  · rcases h.lead with ⟨h1, h2, h3⟩ | h1
    · exact .inl ⟨h1, h2, rfl, h3⟩
    · exact .inr h1
end Go.Proofs.YtiebedcldbmlhaaGreatDoor.Fl
namespace Go.Proofs.YtiebedcldbmlhaaGreatDoor.Fl
open Go.RowKit
set_option linter.unusedVariables false

/-- What a shift to the right leaves behind. -/
def ShrPost (c D nd k : Nat) (dp : Int) (tr : Bool) (T : TypeId) (w w' : World) : Prop := Upd c w w' ∧ DecS w' c (shr ⟨D, nd, dp, tr⟩ k) T

set_option maxHeartbeats 2000000 in
set_option maxRecDepth 100000 in
theorem rshift_any (c D nd k : Nat) (dp : Int) (tr : Bool) (cs : Array Value) (T : TypeId) (w : World) (h : Dec w c D nd dp tr cs T) (hk1 : 1 ≤ k) (hk60 : k ≤ 60) (hdp : -10000000 ≤ dp ∧ dp ≤ 10000000) :
    Calls Tryz.prog 147 #[.pointer (some ⟨c, 0, none⟩), .int .u64 k] w fun e w' => e = .returned (.tuple #[]) ∧ ShrPost c D nd k dp tr T w w' := by
  have H := Lib.hid h
  have c8 := obj_cell (i := 800) h.obj h.cnd
  have f8 := obj_free (i := 800) h.obj
  have c9 := obj_cell (i := 801) h.obj h.cdp
  have f9 := obj_free (i := 801) h.obj
  have hle := h.le
  have hnd1 := h.lead.one
  obtain ⟨p, hp⟩ : ∃ p, p = 2 ^ k := ⟨_, rfl⟩
  have hp60 : p ≤ 1152921504606846976 := by
    rw [hp]
    have h1 : 2 ^ k ≤ 2 ^ 60 := Nat.pow_le_pow_right (by decide) hk60
    exact h1
  have hp2 : 2 ≤ p := by
    rw [hp]
    have h1 : 2 ^ 1 ≤ 2 ^ k := Nat.pow_le_pow_right (by decide) hk1
    exact h1
  have HP := Lib.hid hp
  clear h hp
  go_enter Tryz.func147, Tryz.ntmps147
  go_upto_block 0 with fail
  go_cut [4, 6, 7] from 12 to 48 (fun r n _ wx => ∃ rr a : Nat, r = .int .i64 rr ∧ n = .int .u64 a ∧ 1 ≤ rr ∧ a = pre D nd rr ∧ p ≤ a ∧ pre D nd (rr - 1) < p ∧ wx = w)
  case first =>
    go_wp2_with fail
    go_loopw [4, 6] (fun r n wx => ∃ rr a : Nat, r = .int .i64 rr ∧ n = .int .u64 a ∧ rr ≤ nd ∧ a = pre D nd rr ∧ (rr = 0 ∨ pre D nd (rr - 1) < p) ∧ wx = w) (fun r n wx => nd - (intOf r).toNat)
    case atStart => exact ⟨0, 0, rfl, rfl, Nat.zero_le _, (pre_zero H.out.lead.up).symm, .inl rfl, rfl⟩
    case round =>
      obtain ⟨rr, a, rfl, rfl, hrr, ha, hpr, rfl⟩ := hrel
      have HA := Lib.hid ha
      have HPR := Lib.hid hpr
      have ha10 : a < 11529215046068469760 := by
        rcases hpr with h1 | h1
        · rw [ha, h1, pre_zero H.out.lead.up]; decide
        · rcases Nat.eq_zero_or_pos rr with h2 | h2
          · rw [ha, h2, pre_zero H.out.lead.up]; decide
          · have h3 := (pre_step (D := D) (nd := nd) (r := rr - 1)).2
            rw [show rr - 1 + 1 = rr by omega] at h3
            omega
      clear ha hpr
      have hdiv : ((a : Int) / (2 : Int) ^ k) = ((a / p : Nat) : Int) := by rw [HP.out]; simp
      obtain ⟨g, hg⟩ : ∃ g, g = a / p := ⟨_, rfl⟩
      rw [← hg] at hdiv
      by_cases hap : a < p
      · have hg0 : g = 0 := by rw [hg]; exact Nat.div_eq_of_lt hap
        subst hg0
        clear hg
        by_cases hr : rr < nd
        · obtain ⟨x, hx⟩ : ∃ x, x = dgt D (nd - 1 - rr) := ⟨_, rfl⟩
          obtain ⟨ch, hch⟩ : ∃ ch, ch = 48 + x := ⟨_, rfl⟩
          have cx := obj_cell (i := rr) H.out.obj (H.out.dig rr hr)
          rw [← hx, ← hch] at cx
          have hx9 : x < 10 := by rw [hx]; exact dgt_lt _ _
          have hch9 : ch ≤ 57 := by omega
          obtain ⟨t, ht⟩ : ∃ t, t = a * 10 := ⟨_, rfl⟩
          obtain ⟨s, hs⟩ : ∃ s, s = t + ch := ⟨_, rfl⟩
          obtain ⟨b, hb⟩ : ∃ b, b = s - 48 := ⟨_, rfl⟩
          have e1 : IntKind.u64.wrap ((a : Int) * 10) = (t : Int) := by rw [IntWalk.u64_in _ (by omega)]; omega
          have e2 : IntKind.u64.wrap ((t : Int) + (ch : Int)) = (s : Int) := by rw [IntWalk.u64_in _ (by omega)]; omega
          have e3 : IntKind.u64.wrap ((s : Int) - 48) = (b : Int) := by rw [IntWalk.u64_in _ (by omega)]; omega
          have h8i : (rr : Int) < 800 := by omega
          have hbp : b = pre D nd (rr + 1) := by rw [pre_lt hr, ← HA.out, ← hx]; omega
          have HB := Lib.hid hbp
          clear ht hs hb hbp hx hch
          go_wp2_with fail
          go_roundw
          case rel => exact ⟨rr + 1, b, by go_num, rfl, by omega, HB.out, .inr (by rw [show rr + 1 - 1 = rr by omega, ← HA.out]; exact hap), trivial⟩
          case measure => simp [intOf]; omega
        · obtain rfl : rr = nd := by omega
          have ha1 : 1 ≤ a := by have := HA.out; rw [pre_all] at this; have := lead_pos H.out.lead; omega
          have ha0 : ((a : Int) == 0) = false := by simp; omega
          go_wp2_with fail
          go_loopw [4, 6] (fun r n wx => ∃ ri a : Nat, r = .int .i64 ri ∧ n = .int .u64 a ∧ rr ≤ ri ∧ ri ≤ 1000 ∧ 1 ≤ a ∧ a = pre D rr ri ∧ pre D rr (ri - 1) < p ∧ wx = wr) (fun r n wx => (11529215046068469760 - intOf n).toNat)
          case atStart =>
            refine ⟨rr, a, rfl, rfl, Nat.le_refl _, by omega, ha1, HA.out, ?_, rfl⟩
            have h3 := (pre_step (D := D) (nd := rr) (r := rr - 1)).1
            rw [show rr - 1 + 1 = rr by omega, ← HA.out] at h3
            omega
          case round =>
            clear HA HPR ha10 hdiv hap ha1 ha0
            obtain ⟨ri, a, rfl, rfl, hri, hri2, ha1, ha, hpr, rfl⟩ := hrel
            have ha10 : a < 11529215046068469760 := by
              have h3 := (pre_step (D := D) (nd := rr) (r := ri - 1)).2
              rw [show ri - 1 + 1 = ri by omega] at h3
              omega
            have hr20 : ri ≤ 20 := pre_r (k := k) H.out.lead (by omega) hk60 (by rw [← HP.out]; exact hpr)
            have HA := Lib.hid ha
            have HPR := Lib.hid hpr
            clear ha hpr
            have hdiv : ((a : Int) / (2 : Int) ^ k) = ((a / p : Nat) : Int) := by rw [HP.out]; simp
            obtain ⟨g, hg⟩ : ∃ g, g = a / p := ⟨_, rfl⟩
            rw [← hg] at hdiv
            by_cases hap : a < p
            · have hg0 : g = 0 := by rw [hg]; exact Nat.div_eq_of_lt hap
              subst hg0
              clear hg
              obtain ⟨t, ht⟩ : ∃ t, t = a * 10 := ⟨_, rfl⟩
              have e1 : IntKind.u64.wrap ((a : Int) * 10) = (t : Int) := by rw [IntWalk.u64_in _ (by omega)]; omega
              have hbp : t = pre D rr (ri + 1) := by rw [pre_ge hri, ← HA.out]; omega
              have HB := Lib.hid hbp
              have hat : a < t := by omega
              clear ht hbp
              go_wp2_with fail
              go_roundw
              case rel => exact ⟨ri + 1, t, by go_num, rfl, by omega, by omega, by omega, HB.out, by rw [show ri + 1 - 1 = ri by omega, ← HA.out]; exact hap, trivial⟩
              case measure => simp [intOf]; omega
            · have hg1 : 1 ≤ g := by rw [hg]; exact (Nat.le_div_iff_mul_le (by omega)).2 (by omega)
              have hg0 : ((g : Int) == 0) = false := by simp; omega
              clear hg
              go_wp2_with fail
              go_meet
              exact ⟨ri, a, rfl, rfl, by omega, HA.out, by omega, HPR.out, rfl⟩
      · have hg1 : 1 ≤ g := by rw [hg]; exact (Nat.le_div_iff_mul_le (by omega)).2 (by omega)
        have hg0 : ((g : Int) == 0) = false := by simp; omega
        clear hg
        have hr1 : 1 ≤ rr := by
          rcases Nat.eq_zero_or_pos rr with h0 | h0
          · exfalso
            have h1 := HA.out
            rw [h0, pre_zero H.out.lead.up] at h1
            omega
          · exact h0
        go_wp2_with fail
        go_meet
        exact ⟨rr, a, rfl, rfl, hr1, HA.out, by omega, HPR.out.resolve_left (by omega), rfl⟩
  case rest =>
  obtain ⟨r0, a, rfl, rfl, hr1, ha, hap, hpr, rfl⟩ := hcut
  have hr20 : r0 ≤ 20 := pre_r (k := k) H.out.lead hr1 hk60 (by rw [← HP.out]; exact hpr)
  have ha10 : a < 10 * p := by
    have h3 := (pre_step (D := D) (nd := nd) (r := r0 - 1)).2
    rw [show r0 - 1 + 1 = r0 by omega] at h3
    omega
  obtain ⟨mk, hmk⟩ : ∃ mk, mk = p - 1 := ⟨_, rfl⟩
  have m1 : IntKind.u64.wrap ((2 : Int) ^ k) = (p : Int) := by
    have h1 : ((2 : Int) ^ k) = ((2 ^ k : Nat) : Int) := by simp
    rw [h1, ← HP.out]; exact word_in (by omega)
  have m2 : IntKind.u64.wrap ((p : Int) - 1) = (mk : Int) := by rw [IntWalk.u64_in _ (by omega)]; omega
  have HMK := Lib.hid hmk
  have HA := Lib.hid ha
  have HPR := Lib.hid hpr
  have HAP := Lib.hid hap
  clear hmk ha hpr
  have f1 := obj_free (i := 801) H.out.obj
  go_wp2_with fail
  obtain ⟨dp1, hdp1⟩ : ∃ x : Int, x = dp - ((r0 : Int) - 1) := ⟨_, rfl⟩
  rw [← hdp1]
  have HDP := Lib.hid hdp1
  clear hdp1
  have hm0 : ShrM wc (wc.setCell ⟨c, 801, none⟩ (.int .i64 dp1)) c D nd dp1 tr T r0 0 0 (cs.setIfInBounds 801 (.int .i64 dp1)) :=
    ⟨(Upd.refl _ _).set _ _, obj_set _ H.out.obj, H.out.raw.setInt (.inr rfl), by rw [set_other (by omega)]; exact H.out.cnd, set_same (by rw [H.out.raw.size]; omega), by rw [set_other (by omega)]; exact H.out.ctr, fun i h1 h2 => by rw [set_other (by omega)]; exact H.out.dig i h2, fun i hi => absurd hi (Nat.not_lt_zero _), by omega⟩
  have HM0 := Lib.hid hm0
  clear hm0 c8 f8 c9 f9 f1
  go_loopw [4, 5, 6] (fun r x n wx => ∃ (rr ww a Q : Nat) (cs' : Array Value), r = .int .i64 rr ∧ x = .int .i64 ww ∧ n = .int .u64 a ∧ rr ≤ 1000 ∧ rr = r0 + ww ∧ ww ≤ nd ∧ a < 10 * p ∧ FirstQ D nd p rr ww a Q ∧ ShrM wc wx c D nd dp1 tr T rr ww Q cs') (fun r x n wx => nd - (intOf r).toNat)
  case atStart => exact ⟨r0, 0, a, 0, _, rfl, rfl, rfl, by omega, rfl, Nat.zero_le _, ha10, ⟨by rw [HA.out]; omega, .inl ⟨rfl, rfl, hap⟩⟩, HM0.out⟩
  case round =>
    have HA0' := HA
    clear HM0 ha10 hap m1 m2
    obtain ⟨rr, ww, a1, Q, cs', rfl, rfl, rfl, hrr, hww, hwn, ha10, hfq, hm⟩ := hrel
    have q8 := obj_cell (i := 800) hm.obj hm.cnd
    have fq8 := obj_free (i := 800) hm.obj
    by_cases hr : rr < nd
    · obtain ⟨x, hx⟩ : ∃ x, x = dgt D (nd - 1 - rr) := ⟨_, rfl⟩
      obtain ⟨ch, hch⟩ : ∃ ch, ch = 48 + x := ⟨_, rfl⟩
      have cx := obj_cell (i := rr) hm.obj (hm.old rr (Nat.le_refl _) hr)
      rw [← hx, ← hch] at cx
      have hx9 : x < 10 := by rw [hx]; exact dgt_lt _ _
      have hch9 : ch ≤ 57 := by omega
      obtain ⟨g, hg⟩ : ∃ g, g = a1 / p := ⟨_, rfl⟩
      obtain ⟨lo, hlo⟩ : ∃ lo, lo = a1 % p := ⟨_, rfl⟩
      obtain ⟨gc, hgc⟩ : ∃ gc, gc = 48 + g := ⟨_, rfl⟩
      obtain ⟨t, ht⟩ : ∃ t, t = lo * 10 := ⟨_, rfl⟩
      obtain ⟨s, hs⟩ : ∃ s, s = t + ch := ⟨_, rfl⟩
      obtain ⟨b, hb⟩ : ∃ b, b = s - 48 := ⟨_, rfl⟩
      have hg9 : g < 10 := by rw [hg]; exact (Nat.div_lt_iff_lt_mul (by omega)).2 ha10
      have hlop : lo < p := by rw [hlo]; exact Nat.mod_lt _ (by omega)
      have hdiv : ((a1 : Int) / (2 : Int) ^ k) = (g : Int) := by rw [hg, HP.out]; simp
      have hand : bits .and .u64 (a1 : Int) (mk : Int) = (lo : Int) := by rw [HMK.out, HP.out, and_mask (by omega) hk60, ← HP.out, hlo]
      have e4 : IntKind.u64.wrap ((g : Int) + 48) = (gc : Int) := by rw [IntWalk.u64_in _ (by omega)]; omega
      have e5 : (gc : Int) % 256 = (gc : Int) := by omega
      have e1 : IntKind.u64.wrap ((lo : Int) * 10) = (t : Int) := by rw [IntWalk.u64_in _ (by omega)]; omega
      have e2 : IntKind.u64.wrap ((t : Int) + (ch : Int)) = (s : Int) := by rw [IntWalk.u64_in _ (by omega)]; omega
      have e3 : IntKind.u64.wrap ((s : Int) - 48) = (b : Int) := by rw [IntWalk.u64_in _ (by omega)]; omega
      have h8i : (rr : Int) < 800 := by omega
      have hw8 : ww < 800 := by omega
      have hw8i : (ww : Int) < 800 := by omega
      obtain ⟨b0, _, hb0⟩ := hm.raw.byte ww hw8
      have cv := obj_cell hm.obj hb0
      have fv := obj_free (i := ww) hm.obj
      have hb10 : b < 10 * p := by omega
      have hst := hm.step (rr' := rr + 1) (x := g) (by omega) hw8 (by omega) hg9
      have hdm : a1 = g * p + lo := by rw [hg, hlo, Nat.mul_comm]; exact (Nat.div_add_mod a1 p).symm
      have hfq2 : FirstQ D nd p (rr + 1) (ww + 1) b (10 * Q + g) := hfq.step hr (by omega) hdm hlop hg9 (by rw [← hx]; omega)
      have HFQ := Lib.hid hfq2
      rw [← hgc] at hst
      have HST := Lib.hid hst
      have HWW := Lib.hid hww
      clear hx hch hg hlo hgc ht hs hb hm hst hfq hfq2 hdm hww
      go_wp2_with fail
      go_roundw
      case rel => exact ⟨rr + 1, ww + 1, b, 10 * Q + g, cs'.setIfInBounds ww (.int .u8 (gc : Int)), by go_num, by go_num, rfl, by omega, by have := HWW.out; omega, by have := HWW.out; omega, hb10, HFQ.out, HST.out⟩
      case measure => simp [intOf]; omega
    · have HM := Lib.hid (hm.rr (rr' := 1000) hrr)
      have HGH := Lib.hid (hfq.gh (tr := tr) hww (by omega))
      have ha10' := ha10
      clear hm hfq ha10 hww
      go_wp2_with fail
      go_loopw [5, 6] (fun x n wx => ∃ (ww a Q j QQ : Nat) (t : Bool) (cs' : Array Value), x = .int .i64 ww ∧ n = .int .u64 a ∧ a < 10 * p ∧ Gh D nd p r0 tr ww j a Q QQ t ∧ ShrM wc wx c D nd dp1 t T 1000 ww Q cs') (fun x n wx => shrM k (intOf n).toNat)
      case atStart => exact ⟨ww, a1, Q, 0, Q, tr, cs', rfl, rfl, ha10', HGH.out, HM.out⟩
      case round =>
        clear HM HGH ha10' q8 fq8 hwn
        obtain ⟨ww, a2, Q, j, QQ, t, cs', rfl, rfl, ha10, hgh, hm⟩ := hrel
        have hw800 := hm.ww8
        by_cases haz : a2 = 0
        · subst haz
          have q8 := obj_cell (i := 800) hm.obj hm.cnd
          have fq8 := obj_free (i := 800) hm.obj
          have hw1 : Lead Q ww := hgh.written (by omega) hw800
          have hd : Dec (wr.setCell ⟨c, 800, none⟩ (.int .i64 (ww : Int))) c Q ww dp1 t (cs'.setIfInBounds 800 (.int .i64 (ww : Int))) T :=
            ⟨obj_set _ hm.obj, hm.raw.setInt (.inl rfl), hm.new.set (by omega), set_same (by rw [hm.raw.size]; omega), by rw [set_other (by omega)]; exact hm.cdp, by rw [set_other (by omega)]; exact hm.ctr, hw1, hw800⟩
          have HTR := Lib.hid (trim_any c Q ww dp1 t _ T _ hd)
          have HU := Lib.hid (hm.upd.set 800 (.int .i64 (ww : Int)))
          rw [HP.out] at hgh
          have HFIN := Lib.hid (rsh_fin (dp := dp) H.out.lead hw800 hgh)
          clear hm hw1 hd hgh ha10
          go_wp2_with fail
          refine HTR.out.mono ?_
          rintro e2 w2 ⟨rfl, hu3, hd3⟩
          have HR := Lib.hid (show ShrPost c D nd k dp tr T wc w2 from
            ⟨HU.out.trans hu3, by rw [HFIN.out, ← HDP.out]; exact hd3⟩)
          clear hu3 hd3
          go_wp2_with fail
          go_end0
          exact ⟨rfl, HR.out⟩
        · obtain ⟨g, hg⟩ : ∃ g, g = a2 / p := ⟨_, rfl⟩
          obtain ⟨lo, hlo⟩ : ∃ lo, lo = a2 % p := ⟨_, rfl⟩
          obtain ⟨gc, hgc⟩ : ∃ gc, gc = 48 + g := ⟨_, rfl⟩
          obtain ⟨u, ht⟩ : ∃ u, u = lo * 10 := ⟨_, rfl⟩
          have hg9 : g < 10 := by rw [hg]; exact (Nat.div_lt_iff_lt_mul (by omega)).2 ha10
          have hlop : lo < p := by rw [hlo]; exact Nat.mod_lt _ (by omega)
          have hdiv : ((a2 : Int) / (2 : Int) ^ k) = (g : Int) := by rw [hg, HP.out]; simp
          have hand : bits .and .u64 (a2 : Int) (mk : Int) = (lo : Int) := by rw [HMK.out, HP.out, and_mask (by omega) hk60, ← HP.out, hlo]
          have e4 : IntKind.u64.wrap ((g : Int) + 48) = (gc : Int) := by rw [IntWalk.u64_in _ (by omega)]; omega
          have e5 : (gc : Int) % 256 = (gc : Int) := by omega
          have e1 : IntKind.u64.wrap ((lo : Int) * 10) = (u : Int) := by rw [IntWalk.u64_in _ (by omega)]; omega
          have hdm : a2 = g * p + lo := by rw [hg, hlo, Nat.mul_comm]; exact (Nat.div_add_mod a2 p).symm
          have hpos : (0 : Int) < (a2 : Int) := by omega
          have ht10 : u < 10 * p := by omega
          have hmeas : shrM k u < shrM k a2 := by
            have h1 := shrM_lt (k := k) haz
            rw [← HP.out, ← hlo, ← ht] at h1
            exact h1
          have HME := Lib.hid hmeas
          by_cases hw8 : ww < 800
          · have hw8i : (ww : Int) < 800 := by omega
            obtain ⟨b0, _, hb0⟩ := hm.raw.byte ww hw8
            have cv := obj_cell hm.obj hb0
            have fv := obj_free (i := ww) hm.obj
            have hst := hm.step (rr' := 1000) (x := g) (Nat.le_refl _) hw8 (by omega) hg9
            rw [← hgc] at hst
            have HST := Lib.hid hst
            have HG2 := Lib.hid (hgh.put hw8 (by omega) hdm hlop hg9)
            rw [← ht] at HG2
            clear hg hlo hgc ht hm hst hgh hdm hmeas
            go_wp2_with fail
            go_roundw
            case rel => exact ⟨ww + 1, u, 10 * Q + g, j, 10 * QQ + g, t, cs'.setIfInBounds ww (.int .u8 (gc : Int)), by go_num, rfl, ht10, HG2.out, HST.out⟩
            case measure => exact HME.out
          · have hw8i : ¬ ((ww : Int) < 800) := by omega
            have HG2 := Lib.hid (hgh.drop hw8 hw800 (by omega) hdm hlop hg9)
            rw [← ht] at HG2
            by_cases hg0 : g = 0
            · have HM := Lib.hid hm
              have hgi : ((g : Nat) : Int) = 0 := by omega
              subst hg0
              clear hg hlo hgc ht hm hgh hdm hmeas
              go_wp2_with fail
              go_roundw
              case rel => exact ⟨ww, u, Q, j + 1, 10 * QQ + 0, t, cs', rfl, rfl, ht10, by simpa using HG2.out, HM.out⟩
              case measure => exact HME.out
            · have hgi : (0 : Int) < (g : Int) := by omega
              obtain ⟨b3, hb3⟩ := hm.raw.tr
              have c3 := obj_cell hm.obj hb3
              have f3 := obj_free (i := 803) hm.obj
              have HM := Lib.hid (hm.tru hle true)
              have HT := Lib.hid (show (t || decide (g ≠ 0)) = true by rw [decide_eq_true hg0, Bool.or_true])
              clear hg hlo hgc ht hm hgh hdm hmeas
              go_wp2_with fail
              go_roundw
              case rel => exact ⟨ww, u, Q, j + 1, 10 * QQ + g, true, cs'.setIfInBounds 803 (.bool true), rfl, rfl, ht10, by rw [← HT.out]; exact HG2.out, HM.out⟩
              case measure => exact HME.out
end Go.Proofs.YtiebedcldbmlhaaGreatDoor.Fl
