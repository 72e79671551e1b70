/-
  Plain laws for addParameterMetaInfo: sizes, counts. Conditions: each law's own.
-/
import Derived.Test.YtiebedcldbmlhaaGreatDoorT
import Derived.Test.YtiebedcldbmlhaaGreatDoorD
import Derived.Test.YtiebedcldbmlhaaGreatDoorL
import Derived.Deep.CutBlock
namespace Go.Proofs.YtiebedcldbmlhaaGreatDoor
open Go.RowKit
set_option linter.unusedVariables false

theorem trimRight_le (s : Bs) (c : UInt8) : (trimRight s c).length ≤ s.length := by
  unfold trimRight
  rw [List.length_reverse]
  have := (List.dropWhile_sublist (fun x => x == c) (l := s.reverse)).length_le
  simpa using this
theorem cmpBack_le {B : Nat} : ∀ L : List Seg, (∀ x ∈ L, x.const.length ≤ B) → (cmpBack L).2.length ≤ B
  | [], _ => by simp [cmpBack]
  | x :: r, h => by
    cases hp : x.isParam with
    | true => rw [cmpBack_param hp]; exact cmpBack_le r fun y hy => h y (List.mem_cons_of_mem _ hy)
    | false =>
      rw [cmpBack_const hp]
      have := h x (List.mem_cons_self ..)
      simp only
      split
      · exact Nat.le_trans (trimRight_le _ _) this
      · exact this

theorem cmpBack_facts {B : Nat} : ∀ L : List Seg, (∀ x ∈ L, x.const.length ≤ B ∧ x.partCount = 0 ∧ x.cmp = []) → ∀ y ∈ (cmpBack L).1, y.const.length ≤ B ∧ y.partCount = 0 ∧ y.cmp.length ≤ B
  | [], _, y, hy => by simp [cmpBack] at hy
  | x :: r, h, y, hy => by
    have ih := cmpBack_facts r fun z hz => h z (List.mem_cons_of_mem _ hz)
    have hx := h x (List.mem_cons_self ..)
    cases hp : x.isParam with
    | true =>
      rw [cmpBack_param hp] at hy
      rcases List.mem_cons.1 hy with rfl | hy
      · refine ⟨hx.1, hx.2.1, ?_⟩
        have h1 := List.length_filter_le (· != 92) (cmpBack r).2
        have h2 := cmpBack_le (B := B) r fun z hz => (h z (List.mem_cons_of_mem _ hz)).1
        show (List.filter (· != 92) _).length ≤ _
        omega
      · exact ih y hy
    | false =>
      rw [cmpBack_const hp] at hy
      rcases List.mem_cons.1 hy with rfl | hy
      · exact ⟨hx.1, hx.2.1, by rw [hx.2.2]; simp⟩
      · exact ih y hy

theorem SegsIn.drewN {w : World} {gs : List Nat} {L : List Seg} {cvs : List Value} (h : SegsIn w gs L cvs) (n : Nat) : SegsIn (w.drewN n) gs L cvs := h
theorem Touch.drewN {gs : List Nat} {w w' : World} (h : Touch gs w w') (n : Nat) : Touch gs w (w'.drewN n) := ⟨h.os, h.tape, h.output, h.size, h.block⟩
/-- Is the next segment a plain parameter, as this one is? -/
def lenB (x : Seg) (r : List Seg) : Bool := match r with
  | [] => false
  | z :: _ => !x.greedy && z.isParam && !z.greedy
def lenOf (x : Seg) (r : List Seg) : Int := if lenB x r then 1 else x.length
def addC (cmp : Bs) (n : Int) (z : Seg) : Int := if z.isParam then n else n + countS z.const cmp
theorem addC_fold (cmp : Bs) : ∀ (l : List Seg), (∀ y ∈ l, y.const.length ≤ 1000000) → ∀ n0 : Int, n0 = 0 → 0 ≤ l.foldl (addC cmp) n0 ∧ l.foldl (addC cmp) n0 ≤ l.length * 1000001 := by
  have key : ∀ (l : List Seg), (∀ y ∈ l, y.const.length ≤ 1000000) → ∀ n0 : Int, 0 ≤ n0 → 0 ≤ l.foldl (addC cmp) n0 ∧ l.foldl (addC cmp) n0 ≤ n0 + l.length * 1000001 := by
    intro l
    induction l with
    | nil => intro _ n0 h0; simp; omega
    | cons z l ih =>
      intro h n0 h0
      have hz := h z (List.mem_cons_self ..)
      have hc := countS_le (bs z.const) cmp
      rw [bs_data, bs_size] at hc
      have hs : 0 ≤ addC cmp n0 z ∧ addC cmp n0 z ≤ n0 + 1000001 := by unfold addC; split <;> omega
      have := ih (fun y hy => h y (List.mem_cons_of_mem _ hy)) (addC cmp n0 z) hs.1
      rw [List.foldl_cons, List.length_cons]
      omega
  intro l h n0 h0
  subst h0
  have := key l h 0 (by omega)
  omega
theorem mf_param {x : Seg} {r T : List Seg} (h : metaFwd (x :: r) = some T) (hp : x.isParam = true) :
    ∃ T', metaFwd r = some T' ∧ T = { x with length := lenOf x r, partCount := if x.cmp = [] then x.partCount else r.foldl (addC x.cmp) x.partCount } :: T' := by
  unfold metaFwd at h
  simp only [hp, if_true] at h
  cases hr : metaFwd r with
  | none => rw [hr] at h; simp at h
  | some T' =>
    rw [hr] at h
    simp only [Option.some.injEq] at h
    refine ⟨T', rfl, h.symm.trans ?_⟩
    rw [hp]
    congr 2
    clear h hr
    unfold lenOf lenB
    cases r with
    | nil => simp
    | cons z r => rfl
theorem mf_const {x : Seg} {r T : List Seg} (h : metaFwd (x :: r) = some T) (hp : x.isParam = false) :
    ∃ c T', x.const.getLast? = some c ∧ metaFwd r = some T' ∧ T = (if c = 47 ∧ (x.last = true ∨ (r.head?.map (·.optional)) = some true) then { x with optSlash := true } else x) :: T' := by
  unfold metaFwd at h
  simp only [hp, Bool.false_eq_true, if_false] at h
  cases hc : x.const.getLast? with
  | none => rw [hc] at h; simp at h
  | some c =>
    rw [hc] at h
    simp only at h
    cases hr : metaFwd r with
    | none => rw [hr] at h; simp at h
    | some T' =>
      rw [hr] at h
      simp only [Option.some.injEq] at h
      exact ⟨c, T', rfl, rfl, by rw [hp]; exact h.symm⟩
theorem mid_set {D R : List Seg} {x y : Seg} {k : Nat} (hD : D.length = k) : (D ++ x :: R).set k y = (D ++ [y]) ++ R := by
  subst hD; simp
theorem mid_same {D R : List Seg} {x : Seg} : D ++ x :: R = (D ++ [x]) ++ R := by simp
theorem bs_last (t : ByteArray) {c : UInt8} (h : t.data.toList.getLast? = some c) : ∃ hl : t.size - 1 < t.size, t[t.size - 1]'hl = c := by
  have h0 : 0 < t.size := by
    rcases Nat.eq_zero_or_pos t.size with h1 | h1
    · have : t.data.toList = [] := List.length_eq_zero_iff.1 (by rw [size_data]; exact h1)
      rw [this] at h; simp at h
    · exact h1
  have hl : t.size - 1 < t.size := by omega
  rw [data_last t hl] at h
  exact ⟨hl, Option.some.inj h⟩

end Go.Proofs.YtiebedcldbmlhaaGreatDoor
