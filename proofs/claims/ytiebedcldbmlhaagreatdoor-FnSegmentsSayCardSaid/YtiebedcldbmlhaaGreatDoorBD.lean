/-
  The reference's Parts: either it leaves the answer open, or it gives the list of parts that it reads. Conditions: a pattern of at most three hundred bytes.
-/
import Derived.Test.YtiebedcldbmlhaaGreatDoorBC
import Derived.Deep.CutBlock
namespace Go.Proofs.YtiebedcldbmlhaaGreatDoor
open Go.RowKit
set_option linter.unusedVariables false

/-- Whether the last of the parts is a parameter. -/
def prevOf (acc : List Pt) : Bool := (acc.getLast?.map (·.param)).getD false
theorem prevOf_snoc (acc : List Pt) (y : Pt) : prevOf (acc ++ [y]) = y.param := by simp [prevOf]
def parOf (acc : List Pt) : Nat := (acc.filter (·.param)).length
theorem parOf_snoc (acc : List Pt) (y : Pt) : parOf (acc ++ [y]) = parOf acc + (if y.param then 1 else 0) := by
  unfold parOf
  rw [List.filter_append, List.length_append, List.filter_cons]
  cases y.param <;> simp
theorem parOf_le (acc : List Pt) : parOf acc ≤ acc.length := List.length_filter_le _ _
theorem prev_last {acc : List Pt} {x : Pt} (h : acc[acc.length - 1]? = some x) : prevOf acc = x.param := by
  unfold prevOf
  rw [List.getLast?_eq_getElem?, h]
  rfl

/-- How far the reference's reading has come: what it reads from here on makes up what it reads at all. -/
structure Reads (s : Bs) (k : Nat) (acc : List Pt) (st pl fuel : Nat) : Prop where
  go : ∀ R, readP fuel (s.drop k) st pl (prevOf acc) = some R → readP s.length s 0 0 false = some (acc ++ R)
  fl : s.length - k ≤ fuel
  ksz : k ≤ s.length
  stk : st ≤ k
  plk : pl ≤ k
  acck : acc.length ≤ k
  csz : ∀ x ∈ acc, x.const.length ≤ s.length
/-- One round's part. -/
structure Round (s : Bs) (k : Nat) (prev : Bool) (st pl f : Nat) (y : Pt) (k' st' pl' : Nat) : Prop where
  go : (y.param && prev) = false → ∀ R, readP f (s.drop k') st' pl' y.param = some R → readP (f + 1) (s.drop k) st pl prev = some (y :: R)
  fwd : k < k'
  ksz : k' ≤ s.length
  stk : st' ≤ st + 1
  plk : pl' ≤ pl + 1
  csz : y.const.length ≤ s.length
theorem Reads.step {s : Bs} {k : Nat} {acc : List Pt} {st pl f : Nat} {y : Pt} {k' st' pl' : Nat} (h : Reads s k acc st pl (f + 1)) (r : Round s k (prevOf acc) st pl f y k' st' pl') (hp : (y.param && prevOf acc) = false) : Reads s k' (acc ++ [y]) st' pl' f where
  go := fun R hR => by
    rw [prevOf_snoc] at hR
    have h1 := h.go _ (r.go hp R hR)
    rw [h1]; simp
  fl := by have := h.fl; have := r.fwd; omega
  ksz := r.ksz
  stk := by have := h.stk; have := r.stk; have := r.fwd; omega
  plk := by have := h.plk; have := r.plk; have := r.fwd; omega
  acck := by have := h.acck; have := r.fwd; rw [List.length_append, List.length_singleton]; omega
  csz := fun x hx => by
    rcases List.mem_append.1 hx with hx | hx
    · exact h.csz x hx
    · obtain rfl : x = y := by simpa using hx
      exact r.csz
theorem drop_cons_at {s : Bs} {k : Nat} (h : k < s.length) : s.drop k = s[k] :: s.drop (k + 1) := List.drop_eq_getElem_cons h
/-- The rounds, sign by sign. -/
theorem round_star {s : Bs} {k st pl f : Nat} {prev : Bool} (h : k < s.length) (hc : s[k] = 42) : Round s k prev st pl f ⟨[], 42 :: Lib.itoa (st + 1 : Nat), true, true, true⟩ (k + 1) (st + 1) pl where
  go := fun hp R hR => by
    rw [drop_cons_at h, hc]
    simp only [Bool.true_and] at hp
    subst hp
    unfold readP
    simp only [if_true, Bool.false_eq_true, if_false]
    have h1 : readP f (s.drop (k + 1)) (st + 1) pl true = some R := hR
    rw [h1]; rfl
  fwd := by omega
  ksz := by omega
  stk := by omega
  plk := by omega
  csz := by simp
theorem round_plus {s : Bs} {k st pl f : Nat} {prev : Bool} (h : k < s.length) (hc : s[k] = 43) : Round s k prev st pl f ⟨[], 43 :: Lib.itoa (pl + 1 : Nat), true, true, false⟩ (k + 1) st (pl + 1) where
  go := fun hp R hR => by
    rw [drop_cons_at h, hc]
    simp only [Bool.true_and] at hp
    subst hp
    unfold readP
    have e1 : ¬ (43 : UInt8) = 42 := by decide
    simp only [e1, if_true, Bool.false_eq_true, if_false]
    have h1 : readP f (s.drop (k + 1)) st (pl + 1) true = some R := hR
    rw [h1]; rfl
  fwd := by omega
  ksz := by omega
  stk := by omega
  plk := by omega
  csz := by simp
/-- A run of bytes of one kind, up to a place where it ends. -/
structure Run (p : UInt8 → Bool) (s : Bs) (a e : Nat) : Prop where
  le : a ≤ e
  sz : e ≤ s.length
  tk : (s.drop a).takeWhile p = (s.drop a).take (e - a) ++ (s.drop e).takeWhile p
  dr : (s.drop a).dropWhile p = (s.drop e).dropWhile p
theorem Run.start {p : UInt8 → Bool} {s : Bs} {a : Nat} (h : a ≤ s.length) : Run p s a a := ⟨Nat.le_refl _, h, by simp, rfl⟩
theorem Run.step {p : UInt8 → Bool} {s : Bs} {a e : Nat} (h : Run p s a e) (he : e < s.length) (hp : p s[e] = true) : Run p s a (e + 1) where
  le := by have := h.le; omega
  sz := he
  tk := by
    rw [h.tk, drop_cons_at he, List.takeWhile_cons, hp]
    have h1 : (s.drop a).take (e + 1 - a) = (s.drop a).take (e - a) ++ [s[e]] := by
      have h2 := h.le
      rw [show e + 1 - a = (e - a) + 1 by omega, List.take_succ_eq_append_getElem (by rw [List.length_drop]; omega), List.getElem_drop]
      simp only [show a + (e - a) = e by omega]
    rw [h1]
    simp
  dr := by rw [h.dr, drop_cons_at he, List.dropWhile_cons, hp]; rfl
theorem Run.stop {p : UInt8 → Bool} {s : Bs} {a e : Nat} (h : Run p s a e) (he : ∀ h : e < s.length, p s[e] = false) : (s.drop a).takeWhile p = (s.drop a).take (e - a) ∧ (s.drop a).dropWhile p = s.drop e := by
  by_cases hl : e < s.length
  · have h1 := he hl
    refine ⟨?_, ?_⟩
    · rw [h.tk, drop_cons_at hl, List.takeWhile_cons, h1]; simp
    · rw [h.dr, drop_cons_at hl, List.dropWhile_cons, h1]; rfl
  · have h0 : s.drop e = [] := List.drop_of_length_le (by omega)
    refine ⟨?_, ?_⟩
    · rw [h.tk, h0]; simp
    · rw [h.dr, h0]; rfl
theorem round_const {s : Bs} {k e st pl f : Nat} {prev : Bool} (h : k < s.length) (hc : constB s[k] = true) (hr : Run constB s k e) (he : ∀ h : e < s.length, constB s[e] = false) (hke : k < e) : Round s k prev st pl f ⟨(s.drop k).take (e - k), [], false, false, false⟩ e st pl where
  go := fun _ R hR => by
    obtain ⟨h1, h2⟩ := hr.stop he
    have h3 : readP f (s.drop e) st pl false = some R := hR
    rw [drop_cons_at h] at h1 h2 ⊢
    unfold readP
    rw [if_neg (constB_ne hc 42 (by decide)), if_neg (constB_ne hc 43 (by decide)), if_neg (constB_ne hc 58 (by decide)), if_pos hc, h1, h2, h3]
    rfl
  fwd := hke
  ksz := hr.sz
  stk := by omega
  plk := by omega
  csz := by show (List.take _ _).length ≤ _; rw [List.length_take, List.length_drop]; omega
theorem round_name {s : Bs} {k e st pl f : Nat} {prev : Bool} (h : k < s.length) (hc : s[k] = 58) (hr : Run nameB s (k + 1) e) (he : ∀ h : e < s.length, nameB s[e] = false) (hke : k + 1 < e) (hq : ∀ h : e < s.length, s[e] ≠ 63) : Round s k prev st pl f ⟨[], (s.drop (k + 1)).take (e - (k + 1)), true, false, false⟩ e st pl where
  go := fun hp R hR => by
    simp only [Bool.true_and] at hp
    subst hp
    obtain ⟨h1, h2⟩ := hr.stop he
    have h3 : readP f (s.drop e) st pl true = some R := hR
    rw [drop_cons_at h, hc]
    unfold readP
    have hn : ¬ (s.drop (k + 1)).take (e - (k + 1)) = [] := by
      intro h0
      have := congrArg List.length h0
      rw [List.length_take, List.length_drop] at this
      have h4 := hr.sz
      simp at this; omega
    have hq2 : ¬ (s.drop e).head? = some 63 := by
      by_cases hl : e < s.length
      · rw [drop_cons_at hl, List.head?_cons]
        exact fun h0 => hq hl (Option.some.inj h0)
      · rw [List.drop_of_length_le (by omega)]; simp
    rw [if_neg (by decide), if_neg (by decide), if_pos rfl, h1, h2, if_neg hn, if_neg (by simp), if_neg hq2, h3]
    rfl
  fwd := by omega
  ksz := hr.sz
  stk := by omega
  plk := by omega
  csz := by simp
theorem round_opt {s : Bs} {k e st pl f : Nat} {prev : Bool} (h : k < s.length) (hc : s[k] = 58) (hr : Run nameB s (k + 1) e) (he : ∀ h : e < s.length, nameB s[e] = false) (hke : k + 1 < e) (hl : e < s.length) (hq : s[e] = 63) : Round s k prev st pl f ⟨[], (s.drop (k + 1)).take (e - (k + 1)), true, false, true⟩ (e + 1) st pl where
  go := fun hp R hR => by
    simp only [Bool.true_and] at hp
    subst hp
    obtain ⟨h1, h2⟩ := hr.stop he
    have h3 : readP f (s.drop (e + 1)) st pl true = some R := hR
    rw [drop_cons_at h, hc]
    unfold readP
    have hn : ¬ (s.drop (k + 1)).take (e - (k + 1)) = [] := by
      intro h0
      have := congrArg List.length h0
      rw [List.length_take, List.length_drop] at this
      have h4 := hr.sz
      simp at this; omega
    have hq2 : (s.drop e).head? = some 63 := by rw [drop_cons_at hl, hq]; rfl
    have hd : (s.drop e).drop 1 = s.drop (e + 1) := by rw [List.drop_drop]
    rw [if_neg (by decide), if_neg (by decide), if_pos rfl, h1, h2, if_neg hn, if_neg (by simp), if_pos hq2, hd, h3]
    rfl
  fwd := by omega
  ksz := by omega
  stk := by omega
  plk := by omega
  csz := by simp
end Go.Proofs.YtiebedcldbmlhaaGreatDoor
