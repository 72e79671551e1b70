/-
  A scope whose gotos lead to labels further on: the run goes on behind the label. Conditions: at most n gotos on a way.
-/
import Derived.Test.YtiebedcldbmlhaaDoorFG
import Derived.WalkMore
namespace Go.Proofs.YtiebedcldbmlhaaDoor.Fl
open Go.RowKit
set_option linter.unusedVariables false

/-- Where a goto leads on: the code behind its label, as often as n times. -/
def Follow (P : Program) (c : Code) : Nat → (Exit → Act → World → Prop) → Exit → Act → World → Prop
  | 0, Q => Exit.noGoto Q
  | n + 1, Q => fun e a w => match e with
    | .goto l => ∃ r, findLabel c l = some r ∧ r.wp P (Follow P c n Q) a w
    | e => Q e a w
theorem follow_key {P : Program} {c : Code} {Q : Exit → Act → World → Prop} {b : Frame} {k : List Item} {cs : List Frame} : ∀ (n : Nat) (e : Exit) (a₁ : Act) (w₁ : World) (x : Machine),
    Follow P c n Q e a₁ w₁ → Arrives P x b (.inScope c :: k) cs e a₁ w₁ → ∃ e' a' w', Q e' a' w' ∧ Arrives P x b k cs e' a' w' := by
  intro n
  induction n with
  | zero =>
    intro e a₁ w₁ x hq harr
    cases e with
    | normal => exact ⟨.normal, a₁, w₁, hq, Steps.trans harr (.one step_inScope)⟩
    | exit id => exact ⟨.exit id, a₁, w₁, hq, fun k' hk => harr k' (by simp [exitTo, hk])⟩
    | goto l => exact False.elim hq
    | ret => exact ⟨_, a₁, w₁, hq, harr⟩
    | panic ch => exact ⟨_, a₁, w₁, hq, harr⟩
    | outgrown => exact ⟨_, a₁, w₁, hq, harr⟩
  | succ n ih =>
    intro e a₁ w₁ x hq harr
    cases e with
    | normal => exact ⟨.normal, a₁, w₁, hq, Steps.trans harr (.one step_inScope)⟩
    | exit id => exact ⟨.exit id, a₁, w₁, hq, fun k' hk => harr k' (by simp [exitTo, hk])⟩
    | goto l =>
      obtain ⟨r, hf, hr⟩ := hq
      obtain ⟨e₂, a₂, w₂, hq₂, harr₂⟩ := hr b (.inScope c :: k) cs
      exact ih e₂ a₂ w₂ x hq₂ (.of_steps (harr _ (by simp [gotoIn, hf])) harr₂)
    | ret => exact ⟨_, a₁, w₁, hq, harr⟩
    | panic ch => exact ⟨_, a₁, w₁, hq, harr⟩
    | outgrown => exact ⟨_, a₁, w₁, hq, harr⟩
theorem wp_scope_follow {P : Program} {c : Code} {Q : Exit → Act → World → Prop} {a : Act} {w : World} (n : Nat) (h : c.wp P (Follow P c n Q) a w) : (Code.scope c).wp P Q a w := by
  intro b k cs
  obtain ⟨e, a₁, w₁, hq, harr⟩ := h b (.inScope c :: k) cs
  obtain ⟨e', a', w', hq', harr'⟩ := follow_key n e a₁ w₁ _ hq harr
  exact ⟨e', a', w', hq', .of_steps (.one step_scope) harr'⟩
/-- The same, the post behind a name. -/
theorem wp_scope_named {P : Program} {c : Code} {Q : Exit → Act → World → Prop} {a : Act} {w : World} (n : Nat) (h : ∀ R, R = Follow P c n Q → c.wp P R a w) : (Code.scope c).wp P Q a w :=
  wp_scope_follow n (h _ rfl)
theorem follow_goto {P : Program} {c r : Code} {Q R : Exit → Act → World → Prop} {n l : Nat} (hR : R = Follow P c (n + 1) Q) (hf : findLabel c l = some r) {a : Act} {w : World} (h : r.wp P (Follow P c n Q) a w) : R (.goto l) a w := by
  rw [hR]; exact ⟨r, hf, h⟩
theorem follow_ret {P : Program} {c : Code} {Q R : Exit → Act → World → Prop} {n : Nat} (hR : R = Follow P c n Q) {a : Act} {w : World} (h : Q .ret a w) : R .ret a w := by
  rw [hR]
  cases n <;> exact h
/-- The same, the post behind a name. -/
theorem follow_named {P : Program} {c r : Code} {Q R : Exit → Act → World → Prop} {n l : Nat} (hR : R = Follow P c (n + 1) Q) (hf : findLabel c l = some r) {a : Act} {w : World} (h : ∀ R', R' = Follow P c n Q → r.wp P R' a w) : R (.goto l) a w :=
  follow_goto hR hf (h _ rfl)
end Go.Proofs.YtiebedcldbmlhaaDoor.Fl
