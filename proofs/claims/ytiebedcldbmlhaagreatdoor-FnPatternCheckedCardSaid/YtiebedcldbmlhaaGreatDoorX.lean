/-
  What the segments of a parsed pattern without constraints are held to: sizes, counts, lengths. No program in this text.
  Conditions: patterns of at most a million bytes without the sign that begins a constraint.
-/
import Derived.Test.YtiebedcldbmlhaaGreatDoorU0
import Derived.Test.YtiebedcldbmlhaaGreatDoorR
namespace Go.Proofs.YtiebedcldbmlhaaGreatDoor
open Go.RowKit
set_option linter.unusedVariables false

def Pre (x : Seg) : Prop := x.const.length ≤ 1000000 ∧ x.partCount = 0 ∧ x.cmp.length ≤ 1000000 ∧ x.cons = [] ∧ (x.isParam = true → x.length = 0) ∧ (x.isParam = false → x.length = x.const.length)
/-- What a walk over a segment wants. -/
structure Good (x : Seg) : Prop where
  const : x.const.length ≤ 1000000
  cmp : x.cmp.length ≤ 1000000
  pc0 : 0 ≤ x.partCount
  pc1 : x.partCount ≤ 140737488351232
  len0 : 0 ≤ x.length
  len1 : x.length ≤ 1000000
  cons : x.cons = []
  own : x.isParam = false → x.length = x.const.length ∧ x.const ≠ []

theorem good_meta : ∀ (L M : List Seg), metaFwd L = some M → L.length ≤ 1000000 → (∀ x ∈ L, Pre x) → (∀ y ∈ M, Good y) ∧ M.map (·.isParam) = L.map (·.isParam) ∧ M.map (·.name) = L.map (·.name)
  | [], M, h, hl, hp => by
    have : M = [] := by unfold metaFwd at h; cases h; rfl
    subst this
    exact ⟨by simp, rfl, rfl⟩
  | x :: r, M, h, hl, hp => by
    have hx := hp x (List.mem_cons_self ..)
    have hr : ∀ y ∈ r, Pre y := fun y hy => hp y (List.mem_cons_of_mem _ hy)
    have hrl : r.length ≤ 1000000 := by simp at hl; omega
    cases hip : x.isParam with
    | true =>
      obtain ⟨T', hT, rfl⟩ := mf_param h hip
      obtain ⟨i1, i2, i3⟩ := good_meta r T' hT hrl hr
      refine ⟨fun y hy => ?_, by simp [i2], by simp [i3]⟩
      rcases List.mem_cons.1 hy with rfl | hy
      · have hpc : 0 ≤ (if x.cmp = [] then x.partCount else r.foldl (addC x.cmp) x.partCount) ∧ (if x.cmp = [] then x.partCount else r.foldl (addC x.cmp) x.partCount) ≤ 140737488351232 := by
          split
          · rw [hx.2.1]; omega
          · have := addC_fold x.cmp r (fun y hy => (hr y hy).1) x.partCount hx.2.1
            omega
        have hlo : 0 ≤ lenOf x r ∧ lenOf x r ≤ 1000000 := by
          unfold lenOf
          split
          · omega
          · rw [hx.2.2.2.2.1 hip]; omega
        exact ⟨hx.1, hx.2.2.1, hpc.1, hpc.2, hlo.1, hlo.2, hx.2.2.2.1, fun h => by rw [hip] at h; cases h⟩
      · exact i1 y hy
    | false =>
      obtain ⟨c, T', hc, hT, rfl⟩ := mf_const h hip
      obtain ⟨i1, i2, i3⟩ := good_meta r T' hT hrl hr
      have hown : x.length = x.const.length ∧ x.const ≠ [] := ⟨hx.2.2.2.2.2 hip, by rintro e; rw [e] at hc; cases hc⟩
      have hxc := hx.1
      refine ⟨fun y hy => ?_, ?_, ?_⟩
      · rcases List.mem_cons.1 hy with rfl | hy
        · split
          · exact ⟨hx.1, hx.2.2.1, by show (0 : Int) ≤ x.partCount; rw [hx.2.1]; omega, by show x.partCount ≤ _; rw [hx.2.1]; omega, by show (0 : Int) ≤ x.length; rw [hown.1]; omega, by show x.length ≤ _; rw [hown.1]; omega, hx.2.2.2.1, fun _ => hown⟩
          · exact ⟨hx.1, hx.2.2.1, by rw [hx.2.1]; omega, by rw [hx.2.1]; omega, by rw [hown.1]; omega, by rw [hown.1]; omega, hx.2.2.2.1, fun _ => hown⟩
        · exact i1 y hy
      · rw [List.map_cons, List.map_cons, i2]; congr 1; split <;> rfl
      · rw [List.map_cons, List.map_cons, i3]; congr 1; split <;> rfl

theorem pre_back : ∀ (L : List Seg), (∀ x ∈ L, Pre x ∧ x.cmp = []) → (∀ y ∈ (cmpBack L).1, Pre y) ∧ (cmpBack L).1.map (·.isParam) = L.map (·.isParam) ∧ (cmpBack L).1.map (·.name) = L.map (·.name)
  | [], h => ⟨by simp [cmpBack], rfl, rfl⟩
  | x :: r, h => by
    obtain ⟨i1, i2, i3⟩ := pre_back r fun z hz => h z (List.mem_cons_of_mem _ hz)
    have hx := (h x (List.mem_cons_self ..)).1
    cases hp : x.isParam with
    | true =>
      rw [cmpBack_param hp]
      refine ⟨fun y hy => ?_, by simp [i2], by simp [i3]⟩
      rcases List.mem_cons.1 hy with rfl | hy
      · have h1 := List.length_filter_le (· != 92) (cmpBack r).2
        have h2 := cmpBack_le (B := 1000000) r fun z hz => (h z (List.mem_cons_of_mem _ hz)).1.1
        refine ⟨hx.1, hx.2.1, ?_, hx.2.2.2.1, hx.2.2.2.2.1, hx.2.2.2.2.2⟩
        show (List.filter (· != 92) _).length ≤ _
        omega
      · exact i1 y hy
    | false =>
      rw [cmpBack_const hp]
      refine ⟨fun y hy => ?_, by simp [i2], by simp [i3]⟩
      rcases List.mem_cons.1 hy with rfl | hy
      · exact hx
      · exact i1 y hy
theorem mark_snoc (l : List Seg) (x : Seg) : markLast (l ++ [x]) = l ++ [{ x with last := true }] := by
  unfold markLast
  rw [List.reverse_append]
  simp
theorem mark_keep {L : List Seg} {Q : Seg → Prop} (hQ : ∀ x, Q x → Q { x with last := true }) (h : ∀ x ∈ L, Q x) : ∀ x ∈ markLast L, Q x := by
  rcases List.eq_nil_or_concat L with rfl | ⟨l, x, rfl⟩
  · intro x hx; cases hx
  · rw [List.concat_eq_append] at h ⊢
    rw [mark_snoc]
    intro y hy
    rcases List.mem_append.1 hy with hm | hm
    · exact h y (List.mem_append_left _ hm)
    · obtain rfl : y = { x with last := true } := by simpa using hm
      exact hQ x (h x (by simp))
theorem mark_map {α : Type} (f : Seg → α) (hf : ∀ x, f { x with last := true } = f x) (L : List Seg) : (markLast L).map f = L.map f := by
  rcases List.eq_nil_or_concat L with rfl | ⟨l, x, rfl⟩
  · rfl
  · rw [List.concat_eq_append, mark_snoc]; simp [hf]
theorem mark_length (L : List Seg) : (markLast L).length = L.length := by
  have := congrArg List.length (mark_map (fun _ => ()) (fun _ => rfl) L)
  simpa using this

theorem pre_go : ∀ (k : Nat) (p : Bs) (st pl : Nat) (S : List Seg) (N : List Bs) (T : List Seg) (U : List Bs), parseGo k p st pl S N = some (T, U) → (∀ x ∈ p, x ≠ 60) → p.length ≤ 1000000 → S.length + p.length ≤ 1000000 → (∀ x ∈ S, Pre x ∧ x.cmp = []) → N = (S.filter (·.isParam)).map (·.name) →
    (∀ x ∈ T, Pre x ∧ x.cmp = []) ∧ U = (T.filter (·.isParam)).map (·.name) ∧ T.length ≤ 1000000
  | 0, p, st, pl, S, N, T, U, h, h60, hl, hsl, hS, hN => by
    unfold parseGo at h; cases h
    exact ⟨hS, hN, by omega⟩
  | k + 1, p, st, pl, S, N, T, U, h, h60, hl, hsl, hS, hN => by
    by_cases h0 : p = []
    · subst h0
      rw [go_step_end] at h; cases h
      exact ⟨hS, hN, by simpa using hsl⟩
    · have hp0 : 0 < p.length := List.length_pos_iff.2 h0
      by_cases hp : paramPos p = some 0
      · rw [go_step_param hp h60] at h
        have hpf := plainPart_facts p st pl
        have hlen : 1 ≤ (plainPart p st pl).1.length := by rw [plainPart_take, List.length_take]; omega
        refine pre_go k _ _ _ _ _ T U h (fun x hx => h60 x (List.mem_of_mem_drop hx)) (by rw [List.length_drop]; omega) (by rw [List.length_drop, List.length_append, List.length_singleton]; omega) (fun x hx => ?_) ?_
        · rcases List.mem_append.1 hx with hm | hm
          · exact hS x hm
          · obtain rfl : x = (plainPart p st pl).2.1 := by simpa using hm
            refine ⟨⟨by rw [hpf.1]; simp, hpf.2.1, by rw [hpf.2.2.1]; simp, hpf.2.2.2.1, fun _ => rfl, fun h => ?_⟩, hpf.2.2.1⟩
            have : (plainPart p st pl).2.1.isParam = true := rfl
            rw [this] at h; cases h
        · rw [List.filter_append, List.map_append, ← hN]; rfl
      · rw [go_step_const h0 hp] at h
        have hcf := constPart_facts p (paramPos p)
        have hlen : 1 ≤ (constPart p (paramPos p)).1.length := by
          cases hpp : paramPos p with
          | none => show 1 ≤ p.length; omega
          | some n => show 1 ≤ (p.take n).length
                      rw [List.length_take]
                      have : n ≠ 0 := by rintro rfl; exact hp hpp
                      omega
        refine pre_go k _ _ _ _ _ T U h (fun x hx => h60 x (List.mem_of_mem_drop hx)) (by rw [List.length_drop]; omega) (by rw [List.length_drop, List.length_append, List.length_singleton]; omega) (fun x hx => ?_) ?_
        · rcases List.mem_append.1 hx with hm | hm
          · exact hS x hm
          · obtain rfl : x = (constPart p (paramPos p)).2 := by simpa using hm
            refine ⟨⟨by omega, hcf.2.1, by rw [hcf.2.2.1]; simp, hcf.2.2.2, fun h => ?_, fun _ => rfl⟩, hcf.2.2.1⟩
            have : (constPart p (paramPos p)).2.isParam = false := rfl
            rw [this] at h; cases h
        · rw [List.filter_append, List.map_append, ← hN]
          have : (constPart p (paramPos p)).2.isParam = false := rfl
          simp [this]
theorem filter_names : ∀ (L M : List Seg), M.map (·.isParam) = L.map (·.isParam) → M.map (·.name) = L.map (·.name) → (M.filter (·.isParam)).map (·.name) = (L.filter (·.isParam)).map (·.name)
  | [], M, h1, _ => by have : M = [] := by simpa using h1
                       subst this; rfl
  | x :: L, [], h1, _ => by cases h1
  | x :: L, y :: M, h1, h2 => by
    simp only [List.map_cons, List.cons.injEq] at h1 h2
    have := filter_names L M h1.2 h2.2
    cases hx : x.isParam with
    | true => rw [List.filter_cons_of_pos hx, List.filter_cons_of_pos (h1.1.trans hx), List.map_cons, List.map_cons, this, h2.1]
    | false =>
      rw [List.filter_cons_of_neg (p := fun z : Seg => z.isParam) (a := y) (by show ¬ y.isParam = true; rw [h1.1, hx]; simp), List.filter_cons_of_neg (p := fun z : Seg => z.isParam) (a := x) (by show ¬ x.isParam = true; rw [hx]; simp)]
      exact this
/-- What the parser leaves. -/
theorem parse_good {p : Bs} {M : List Seg} {N : List Bs} (h : parse p = some (M, N)) (h60 : ∀ x ∈ p, x ≠ 60) (hl : p.length ≤ 1000000) :
    (∀ x ∈ M, Good x) ∧ N = (M.filter (·.isParam)).map (·.name) ∧ N.length ≤ 30 ∧ M.length ≤ 1000000 := by
  unfold parse at h
  cases hg : parseGo p.length p 0 0 [] [] with
  | none => rw [hg] at h; cases h
  | some TU =>
    obtain ⟨T, U⟩ := TU
    rw [hg] at h
    simp only at h
    obtain ⟨h1, h2, h3⟩ := pre_go _ _ _ _ _ _ T U hg h60 hl (by simpa using hl) (by simp) rfl
    cases hm : metaFwd (cmpBack (markLast T)).1 with
    | none => rw [hm] at h; cases h
    | some l =>
      rw [hm] at h
      simp only at h
      split at h
      · cases h
      · rename_i h30
        cases h
        have hk := mark_keep (L := T) (Q := fun x => Pre x ∧ x.cmp = []) (fun x hx => ⟨hx.1, hx.2⟩) h1
        obtain ⟨b1, b2, b3⟩ := pre_back _ hk
        obtain ⟨g1, g2, g3⟩ := good_meta _ _ hm (by rw [cmpBack_length, mark_length]; exact h3) b1
        refine ⟨g1, ?_, by omega, by have h9 := congrArg List.length g2; rw [List.length_map, List.length_map, cmpBack_length, mark_length] at h9; omega⟩
        rw [h2]
        refine (filter_names _ _ ?_ ?_).symm
        · rw [g2, b2]; exact mark_map _ (fun _ => rfl) T
        · rw [g3, b3]; exact mark_map _ (fun _ => rfl) T
end Go.Proofs.YtiebedcldbmlhaaGreatDoor
