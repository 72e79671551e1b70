/-
  A region that draws its order: an operation that only reads may be taken first where what it reads is kept by every operation that could come before it. Conditions: each law's own.
-/
import Derived.OrdersHeld
import Derived.Deep.RegionLaw
namespace Go.Proofs.YtiebedcldbmlhaaGreatDoor
open Go
set_option linter.unusedVariables false

section
variable {P : Program} {ops : Array Oper} {Q : Exit → Act → World → Prop} {md : Region.Mode} {S : World → Prop} {need : Nat → Bool}

/-- Whatever order is picked, and behind the operations that 'need' names the condition holds. -/
def AnyN (P : Program) (md : Region.Mode) (ops : Array Oper) (Q : Exit → Act → World → Prop) (S : World → Prop) (need : Nat → Bool) : Nat → Array Bool → Act → World → Prop
  | 0, done, a, w => Region.ready md ops done = [] ∧ Q .normal a w
  | n + 1, done, a, w => (Region.ready md ops done = [] → Q .normal a w) ∧
      ∀ j ∈ Region.ready md ops done, wpOp P ops Q j (fun b v => (need j = true → S v) ∧ AnyN P md ops Q S need n (done.setIfInBounds j true) b v) a w

theorem AnyN.plain : ∀ (n : Nat) (done : Array Bool) (a : Act) (w : World), AnyN P md ops Q S need n done a w → wpAny P md ops Q n done a w
  | 0, _, _, _, h => h
  | n + 1, _, _, _, h => ⟨h.1, fun j hj => wpOp_mono (fun b v k => AnyN.plain n _ b v k.2) (h.2 j hj)⟩

theorem AnyN.first {i : Nat} {o : Oper} {x : Value} {Y : World → Prop} (hi : ops[i]? = some o) (hsel : ∀ (j : Nat) (p : Oper) cs b, ops[j]? = some p → p.op ≠ .select cs b)
    (hQ : ∀ c a w, Q (.panic c) (a.put o.dst x) w → Q (.panic c) a w)
    (hSY : ∀ v, Y v → need i = true → S v) :
    ∀ (n : Nat) (done : Array Bool) (a : Act) (w : World),
      (∀ j p, ops[j]? = some p → j ≠ i → done.getD j true = false → (∀ e ∈ p.after, Region.binds md e = true → e.on ≠ i) → o.apart ops p = true) →
      (∀ (j : Nat) (p : Oper), ops[j]? = some p → j ≠ i → done.getD j true = false → (∀ e ∈ p.after, Region.binds md e = true → e.on ≠ i) → ∀ v, (need j = true → S v) → Y v) →
      i ∈ Region.ready md ops done → YieldsIf P ops Y o x a → Y w →
      AnyN P md ops Q S need n (done.setIfInBounds i true) (a.put o.dst x) w → AnyN P md ops Q S need (n + 1) done a w := by
  intro n
  induction n with
  | zero =>
    intro done a w _ _ hr hy hw H
    refine ⟨fun h => (by rw [h] at hr; cases hr), fun j hj => ?_⟩
    by_cases e : j = i
    · subst e; exact hy.wpOp hi hw ⟨hSY w hw, H⟩
    · have hm := ready_mono hj e
      rw [H.1] at hm
      cases hm
  | succ n ih =>
    intro done a w hap hY hr hy hw H
    refine ⟨fun h => (by rw [h] at hr; cases hr), fun j hj => ?_⟩
    by_cases e : j = i
    · subst e; exact hy.wpOp hi hw ⟨hSY w hw, H⟩
    · obtain ⟨hj0, p, hp, hall⟩ := mem_ready.1 hj
      have hno : ∀ e ∈ p.after, Region.binds md e = true → e.on ≠ i := fun e he hb heq => by
        have h1 := hall e he hb
        have h0 := (mem_ready.1 hr).1
        rw [heq] at h1
        rcases Nat.lt_or_ge i done.size with hlt | hge
        · simp [hlt] at h0 h1; rw [h0] at h1; cases h1
        · simp [Array.getElem?_eq_none hge] at h1
      have h2 := wpOp_putIf hp (hap j p hp e hj0 hno) (fun cs b => hsel i o cs b hi) (fun cs b => hsel j p cs b hp) hQ hy (H.2 j (ready_mono hj e))
      refine wpOp_mono (fun b v k => ⟨k.2.1, ih _ b v (fun k' pk hk hki hun hnk => ?_) (fun k' pk hk hki hun hnk => ?_) (ready_mono hr (Ne.symm e)) k.1 (hY j p hp e hj0 hno v k.2.1) ?_⟩) h2
      · refine hap k' pk hk hki ?_ hnk
        by_cases e2 : j = k'
        · subst e2; exact hj0
        · rw [getD_set_ne true e2] at hun; exact hun
      · refine hY k' pk hk hki ?_ hnk
        by_cases e2 : j = k'
        · subst e2; exact hj0
        · rw [getD_set_ne true e2] at hun; exact hun
      · rw [Array.setIfInBounds_comm _ _ e]
        exact k.2.2

/-- Does every other operation that does not wait for number i leave the condition to be shown? -/
def needOk (md : Region.Mode) (ops : Array Oper) (need : Nat → Bool) (done : Array Bool) (i : Nat) : Bool :=
  (List.range ops.size).all fun j => j == i || done.getD j true || need j || match ops[j]? with
    | some p => p.after.any (fun e => Region.binds md e && e.on == i)
    | none => true
theorem needOk_spec {i : Nat} {done : Array Bool} (h : needOk md ops need done i = true) (j : Nat) (p : Oper) (hp : ops[j]? = some p) (hne : j ≠ i) (hd : done.getD j true = false) (hno : ∀ e ∈ p.after, Region.binds md e = true → e.on ≠ i) : need j = true := by
  unfold needOk at h
  rw [List.all_eq_true] at h
  have h1 := h j (List.mem_range.2 (Array.getElem?_eq_some_iff.1 hp).1)
  simp only [hp, Bool.or_eq_true, beq_iff_eq, hne, false_or, hd, Bool.false_eq_true] at h1
  rcases h1 with h1 | h1
  · exact h1
  · obtain ⟨e, he, hb⟩ := Array.any_eq_true'.1 h1
    simp only [Bool.and_eq_true, beq_iff_eq] at hb
    exact absurd hb.2 (hno e he hb.1)

/-- A load that is taken first. -/
theorem AnyN.load {i : Nat} {o : Oper} {x : Value} {n : Nat} {done : Array Bool} {a : Act} {w : World} (hi : ops[i]? = some o) (hs : Region.noSelect ops = true) (hf : Region.free md ops done i = true)
    (hr : (Region.ready md ops done).contains i = true) (hn : needOk md ops need done i = true) (hQ : ∀ c a w, Q (.panic c) (a.put o.dst x) w → Q (.panic c) a w) (hy : YieldsIf P ops S o x a) (hw : S w)
    (h : AnyN P md ops Q S need n (done.setIfInBounds i true) (a.put o.dst x) w) : AnyN P md ops Q S need (n + 1) done a w :=
  AnyN.first (Y := S) hi (Region.noSelect_spec hs) hQ (fun v hv _ => hv) n done a w (Region.free_spec hi hf) (fun j p hp hne hd hno v hv => hv (needOk_spec hn j p hp hne hd hno)) (by simpa using hr) hy hw h
/-- An operation that looks at no memory. -/
theorem AnyN.take {i : Nat} {o : Oper} {x : Value} {n : Nat} {done : Array Bool} {a : Act} {w : World} (hi : ops[i]? = some o) (hs : Region.noSelect ops = true) (hf : Region.free md ops done i = true)
    (hr : (Region.ready md ops done).contains i = true) (hn : need i = false) (hQ : ∀ c a w, Q (.panic c) (a.put o.dst x) w → Q (.panic c) a w) (hy : Yields P ops o x a)
    (h : AnyN P md ops Q S need n (done.setIfInBounds i true) (a.put o.dst x) w) : AnyN P md ops Q S need (n + 1) done a w :=
  AnyN.first (Y := fun _ => True) hi (Region.noSelect_spec hs) hQ (fun v _ hc => by rw [hn] at hc; cases hc) n done a w (Region.free_spec hi hf) (fun _ _ _ _ _ _ _ _ => trivial) (by simpa using hr) hy.yieldsIf trivial h
theorem AnyN.all {rs : List Nat} {n : Nat} {done : Array Bool} {a : Act} {w : World} (hr : Region.ready md ops done = rs) (hne : rs ≠ [])
    (h : ∀ j ∈ rs, wpOp P ops Q j (fun b v => (need j = true → S v) ∧ AnyN P md ops Q S need n (done.setIfInBounds j true) b v) a w) : AnyN P md ops Q S need (n + 1) done a w :=
  ⟨fun h0 => absurd (hr ▸ h0) hne, hr ▸ h⟩
theorem AnyN.fin {done : Array Bool} {a : Act} {w : World} (hr : Region.ready md ops done = []) (h : Q .normal a w) : ∀ n, AnyN P md ops Q S need n done a w
  | 0 => ⟨hr, h⟩
  | _ + 1 => ⟨fun _ => h, by rw [hr]; simp⟩
/-- One operation, carried out. -/
theorem op_via {j : Nat} {o : Oper} {K : Act → World → Prop} {a : Act} {w : World} (hj : ops[j]? = some o) (hg : o.guard = none) (h : ∀ K' : Act → World → Prop, (∀ b v, K b v → K' b v) → Oper.wp P o a w K' Q) : wpOp P ops Q j K a w := by
  unfold wpOp
  simp only [hj]
  have hw : Region.wanted o (yielded ops a.tmps) = true := by simp [Region.wanted, hg]
  rw [if_pos hw]
  exact .inl (h K fun _ _ k => k)
theorem one_of {j : Nat} {p : Nat → Prop} (h : p j) : ∀ i ∈ [j], p i := by
  intro i hi
  simp only [List.mem_cons, List.not_mem_nil, or_false] at hi
  subst hi
  exact h
theorem two_of {j k : Nat} {p : Nat → Prop} (h : p j) (h2 : p k) : ∀ i ∈ [j, k], p i := by
  intro i hi
  simp only [List.mem_cons, List.not_mem_nil, or_false] at hi
  rcases hi with rfl | rfl
  · exact h
  · exact h2
end
end Go.Proofs.YtiebedcldbmlhaaGreatDoor
