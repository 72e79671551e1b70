/-
  Joined: Plain laws on parsed patterns: what their constant parts are held to, so that the parts with the values between are the path. No program in this text.   Conditions: each law's own.
  Conditions: each law's own.
-/
import Derived.Test.YtiebedcldbmlhaaGreatDoorK35
namespace Go.Proofs.YtiebedcldbmlhaaGreatDoor
open Go.RowKit
set_option linter.unusedVariables false

def Raw (x : Seg) : Prop := (x.isParam = false → x.length = x.const.length ∧ x.optional = false ∧ x.optSlash = false) ∧ x.last = false
def FineB : List Seg → Prop
  | [] => True
  | x :: R => (x.isParam = false → x.length = x.const.length ∧ x.optional = false ∧ x.optSlash = false) ∧ (x.last = true → R = []) ∧ FineB R
theorem paramPart_raw {p : Bs} {st pl st' pl' : Nat} {q : Bs} {x : Seg} (h : paramPart p st pl = some (q, x, st', pl')) : x.isParam = true ∧ x.last = false := by
  unfold paramPart at h
  simp only at h
  repeat' split at h
  all_goals first
    | (cases h; done)
    | (cases h; exact ⟨rfl, rfl⟩)
theorem raw_go : ∀ (k : Nat) (p : Bs) (st pl : Nat) (S : List Seg) (N : List Bs) (T : List Seg) (U : List Bs), parseGo k p st pl S N = some (T, U) → (∀ x ∈ S, Raw x) → ∀ x ∈ T, Raw x
  | 0, p, st, pl, S, N, T, U, h, hS => by unfold parseGo at h; cases h; exact hS
  | k + 1, p, st, pl, S, N, T, U, h, hS => by
    by_cases h0 : p = []
    · subst h0; rw [go_step_end] at h; cases h; exact hS
    · by_cases hp : paramPos p = some 0
      · rcases hpt : paramPart p st pl with _ | ⟨q, x, st', pl'⟩
        · rw [step_none hp hpt h0] at h; cases h
        rw [step_param2 hp hpt h0] at h
        refine raw_go k _ _ _ _ _ T U h (fun y hy => ?_)
        rcases List.mem_append.1 hy with hm | hm
        · exact hS y hm
        · obtain rfl : y = x := by simpa using hm
          obtain ⟨h1, h2⟩ := paramPart_raw hpt
          exact ⟨(fun h => by rw [h1] at h; cases h), h2⟩
      · rw [go_step_const h0 hp] at h
        refine raw_go k _ _ _ _ _ T U h (fun y hy => ?_)
        rcases List.mem_append.1 hy with hm | hm
        · exact hS y hm
        · obtain rfl : y = (constPart p (paramPos p)).2 := by simpa using hm
          exact ⟨fun _ => ⟨rfl, rfl, rfl⟩, rfl⟩
theorem fineB_last (x : Seg) (hx : Raw x) : ∀ l : List Seg, (∀ y ∈ l, Raw y) → FineB (l ++ [{ x with last := true }])
  | [], _ => ⟨hx.1, fun _ => rfl, trivial⟩
  | y :: l, h => ⟨(h y (List.mem_cons_self ..)).1, (fun e => by rw [(h y (List.mem_cons_self ..)).2] at e; cases e), fineB_last x hx l fun z hz => h z (List.mem_cons_of_mem _ hz)⟩
theorem fineB_mark {T : List Seg} (h : ∀ x ∈ T, Raw x) : FineB (markLast T) := by
  rcases List.eq_nil_or_concat T with rfl | ⟨l, x, rfl⟩
  · trivial
  · rw [List.concat_eq_append] at h ⊢
    rw [mark_snoc]
    exact fineB_last x (h x (by simp)) l fun y hy => h y (List.mem_append_left _ hy)
theorem fineB_back : ∀ L : List Seg, FineB L → FineB (cmpBack L).1
  | [], _ => trivial
  | x :: r, h => by
    have ih := fineB_back r h.2.2
    have hr : r = [] → (cmpBack r).1 = [] := by rintro rfl; rfl
    cases hp : x.isParam with
    | true =>
      rw [cmpBack_param hp]
      exact ⟨h.1, fun e => hr (h.2.1 e), ih⟩
    | false =>
      rw [cmpBack_const hp]
      exact ⟨h.1, fun e => hr (h.2.1 e), ih⟩
theorem fine_meta : ∀ (L M : List Seg), metaFwd L = some M → FineB L → Fine M ∧ M.head?.map (·.optional) = L.head?.map (·.optional)
  | [], M, h, _ => by
    have : M = [] := by unfold metaFwd at h; cases h; rfl
    subst this
    exact ⟨trivial, rfl⟩
  | x :: r, M, h, hf => by
    cases hip : x.isParam with
    | true =>
      obtain ⟨T', hT, rfl⟩ := mf_param h hip
      obtain ⟨i1, i2⟩ := fine_meta r T' hT hf.2.2
      exact ⟨⟨(fun e => by have e' : x.isParam = false := e; rw [hip] at e'; cases e'), i1⟩, rfl⟩
    | false =>
      obtain ⟨c, T', hc, hT, rfl⟩ := mf_const h hip
      obtain ⟨i1, i2⟩ := fine_meta r T' hT hf.2.2
      obtain ⟨h1, h2, h3⟩ := hf.1 hip
      split
      · rename_i hh
        refine ⟨⟨fun _ => ⟨h1, h2, fun _ => ⟨?_, ?_⟩⟩, i1⟩, rfl⟩
        · show x.const.getLast? = some 47
          rw [hc, hh.1]
        · rcases hh.2 with e | e
          · left
            have := hf.2.1 e
            subst this
            unfold metaFwd at hT
            cases hT; rfl
          · right; rw [i2]; exact e
      · exact ⟨⟨fun _ => ⟨h1, h2, (fun e => by rw [h3] at e; cases e)⟩, i1⟩, rfl⟩
/-- The parts of a parsed pattern. -/
theorem parse_fine {p : Bs} {M : List Seg} {N : List Bs} (h : parse p = some (M, N)) : Fine M := by
  unfold parse at h
  cases hg : parseGo p.length p 0 0 [] [] with
  | none => rw [hg] at h; cases h
  | some TU =>
    obtain ⟨T, U⟩ := TU
    rw [hg] at h
    simp only at h
    cases hm : metaFwd (cmpBack (markLast T)).1 with
    | none => rw [hm] at h; cases h
    | some l =>
      rw [hm] at h
      simp only at h
      split at h
      · cases h
      · cases h
        exact (fine_meta _ _ hm (fineB_back _ (fineB_mark (raw_go _ _ _ _ _ _ _ _ hg (by simp))))).1
/-- What the law's walk wants: the text that it makes, against the path. -/
theorem fills_plain {K : Con → Bs → Bool} {p s : Bs} {M : List Seg} {N : List Bs} {vs : List Bs} (h : parse p = some (M, N)) (hm : matchGo K false M s [] = some vs) :
    vs.length = (M.filter (·.isParam)).length ∧ ((∀ u ∈ vs, u ≠ []) → joinP M vs = s ∨ joinP M vs = s ++ [47]) := by
  obtain ⟨us, e1, e2, e3⟩ := match_join K M s [] vs (parse_fine h) hm
  rw [List.nil_append] at e1
  subst e1
  exact ⟨e2, e3⟩
end Go.Proofs.YtiebedcldbmlhaaGreatDoor
