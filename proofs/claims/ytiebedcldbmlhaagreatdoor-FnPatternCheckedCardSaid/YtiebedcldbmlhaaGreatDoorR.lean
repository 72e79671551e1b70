/-
  What parseRoute has laid while it goes on: its parser's block, the rows of segments and names. Conditions: none beyond each law's own.
-/
import Derived.Test.YtiebedcldbmlhaaGreatDoorS
import Derived.Test.YtiebedcldbmlhaaGreatDoorT
import Derived.Maps.AppendAt
namespace Go.Proofs.YtiebedcldbmlhaaGreatDoor
open Go.RowKit
set_option linter.unusedVariables false

theorem own_ne {v : Value} {row : Option Nat} (h : ∀ k, row = some k → v.ownBlock ≠ some k) : v.ownBlock = none ∨ v.ownBlock ≠ row := by
  cases row with
  | some k => exact .inr (h k rfl)
  | none => cases hv : v.ownBlock with
    | none => exact .inl rfl
    | some k => exact .inr (by simp)
/-- The rows of a parser, and the segments. -/
structure PR (w W : World) (P : Nat) (gs : List Nat) (cvs : List Value) (S : List Seg) (N : List Bs) (sv pv : Value) : Prop where
  segs : W.ownsRow (P + 1) 96 1 sv gs.length (ptrs gs)
  names : W.ownsRow (P + 1) 9 1 pv N.length (svals N)
  apart : ∀ k, sv.ownBlock = some k → pv.ownBlock ≠ some k
  inn : SegsIn W gs S cvs
  nod : gs.Nodup
  far : ∀ g ∈ gs, P < g ∧ sv.ownBlock ≠ some g ∧ pv.ownBlock ≠ some g
  emp : ∀ cv ∈ cvs, ∃ a cap, cv = .slice a 0 cap
  old : Below w.heap.size w W
  here : w.heap.size ≤ P

theorem SegsIn.lt {W : World} {gs : List Nat} {S : List Seg} {cvs : List Value} (h : SegsIn W gs S cvs) {g : Nat} (hg : g ∈ gs) : g < W.heap.size := by
  obtain ⟨i, hi, rfl⟩ := List.getElem_of_mem hg
  have hS : i < S.length := by rw [← h.1]; exact hi
  obtain ⟨g', cv, h1, _, h3⟩ := h.2.2 i S[i] (List.getElem?_eq_getElem hS)
  rw [List.getElem?_eq_getElem hi] at h1
  cases h1
  exact h3.lt
theorem SegsIn.keep {W W2 : World} {gs : List Nat} {S : List Seg} {cvs : List Value} (h : SegsIn W gs S cvs) (hk : ∀ g ∈ gs, W2.heap[g]? = W.heap[g]?) : SegsIn W2 gs S cvs :=
  ⟨h.1, h.2.1, fun i x hx => by
    obtain ⟨g, cv, h1, h2, h3⟩ := h.2.2 i x hx
    exact ⟨g, cv, h1, h2, (hk g (List.mem_of_getElem? h1)).trans h3⟩⟩
theorem SegsIn.snoc {W : World} {gs : List Nat} {S : List Seg} {cvs : List Value} (h : SegsIn W gs S cvs) {g : Nat} {x : Seg} {cv : Value} (ho : SegObj W g x cv) : SegsIn W (gs ++ [g]) (S ++ [x]) (cvs ++ [cv]) := by
  refine ⟨by simp [h.1], by simp [h.2.1], fun i y hy => ?_⟩
  have h1 := h.1
  have h2 := h.2.1
  by_cases hi : i < S.length
  · rw [List.getElem?_append_left hi] at hy
    obtain ⟨g', cv', a, b, c⟩ := h.2.2 i y hy
    exact ⟨g', cv', by rw [List.getElem?_append_left (by omega)]; exact a, by rw [List.getElem?_append_left (by omega)]; exact b, c⟩
  · rw [List.getElem?_append_right (by omega)] at hy
    obtain ⟨hl, hy⟩ := List.getElem?_eq_some_iff.1 hy
    have hi0 : i - S.length = 0 := by simp at hl; omega
    obtain rfl : x = y := by simpa [hi0] using hy
    exact ⟨g, cv, by rw [List.getElem?_append_right (by omega), show i - gs.length = 0 by omega]; rfl, by rw [List.getElem?_append_right (by omega), show i - cvs.length = 0 by omega]; rfl, ho⟩

theorem PR.row_lt {w W : World} {P : Nat} {gs : List Nat} {cvs : List Value} {S : List Seg} {N : List Bs} {sv pv : Value} (h : PR w W P gs cvs S N sv pv) {k : Nat} (hk : pv.ownBlock = some k) : k < W.heap.size := (h.names.lt _ hk).2
theorem PR.srow_lt {w W : World} {P : Nat} {gs : List Nat} {cvs : List Value} {S : List Seg} {N : List Bs} {sv pv : Value} (h : PR w W P gs cvs S N sv pv) {k : Nat} (hk : sv.ownBlock = some k) : k < W.heap.size := (h.segs.lt _ hk).2
theorem PR.size {w W : World} {P : Nat} {gs : List Nat} {cvs : List Value} {S : List Seg} {N : List Bs} {sv pv : Value} (h : PR w W P gs cvs S N sv pv) : w.heap.size ≤ W.heap.size := h.old.size

/-- A step that leaves all old blocks but one that is none of these. -/
theorem PR.keep {w W W2 : World} {P : Nat} {gs : List Nat} {cvs : List Value} {S : List Seg} {N : List Bs} {sv pv : Value} (h : PR w W P gs cvs S N sv pv) {row : Option Nat} (hg : W.grownBy W2 row)
    (h1 : ∀ k, row = some k → w.heap.size ≤ k) (h2 : ∀ k, row = some k → sv.ownBlock ≠ some k ∧ pv.ownBlock ≠ some k ∧ k ∉ gs) : PR w W2 P gs cvs S N sv pv where
  segs := h.segs.kept hg (own_ne fun k hk => (h2 k hk).1)
  names := h.names.kept hg (own_ne fun k hk => (h2 k hk).2.1)
  apart := h.apart
  inn := h.inn.keep fun g hgm => hg.block g (h.inn.lt hgm) (fun e => (h2 g e.symm).2.2 hgm)
  nod := h.nod
  far := h.far
  emp := h.emp
  old := ⟨hg.os.trans h.old.os, hg.tape.trans h.old.tape, hg.output.trans h.old.output, Nat.le_trans h.old.size hg.size, fun k hk => (hg.block k (Nat.lt_of_lt_of_le hk h.old.size) (fun e => by have := h1 k e.symm; omega)).trans (h.old.block k hk)⟩
  here := h.here
theorem PR.below {w W W2 : World} {P : Nat} {gs : List Nat} {cvs : List Value} {S : List Seg} {N : List Bs} {sv pv : Value} (h : PR w W P gs cvs S N sv pv) (hb : Below W.heap.size W W2) : PR w W2 P gs cvs S N sv pv :=
  h.keep (grown_of_below hb) (by intro k hk; cases hk) (by intro k hk; cases hk)
theorem PR.own {w W W2 : World} {P : Nat} {gs : List Nat} {cvs : List Value} {S : List Seg} {N : List Bs} {sv pv : Value} (h : PR w W P gs cvs S N sv pv) (hg : W.grownBy W2 (some P)) : PR w W2 P gs cvs S N sv pv :=
  h.keep hg (by intro k hk; cases hk; exact h.here) (by
    intro k hk; cases hk
    exact ⟨fun e => by have := (h.segs.lt _ e).1; omega, fun e => by have := (h.names.lt _ e).1; omega, fun e => by have := (h.far _ e).1; omega⟩)
theorem PR.setP {w W : World} {P : Nat} {gs : List Nat} {cvs : List Value} {S : List Seg} {N : List Bs} {sv pv : Value} (h : PR w W P gs cvs S N sv pv) (i : Nat) (v : Value) : PR w (W.setCell ⟨P, i, none⟩ v) P gs cvs S N sv pv :=
  h.own ⟨rfl, rfl, rfl, by simp, fun k hk hne => Below.heap_setCell W ⟨P, i, none⟩ v k (fun e => hne (by rw [e]))⟩
/-- A name more. -/
theorem PR.name {w W W2 : World} {P : Nat} {gs : List Nat} {cvs : List Value} {S : List Seg} {N : List Bs} {sv pv pv' : Value} (h : PR w W P gs cvs S N sv pv) {n : Bs} {X : Nat}
    (ho : W2.ownsRow (P + 1) 9 1 pv' (N.length + 1) (svals N ++ svals [n])) (hg : W.grownBy W2 pv.ownBlock) (hX : pv'.ownBlock = pv.ownBlock ∨ pv'.ownBlock = some X) (hx : W.heap.size ≤ X) : PR w W2 P gs cvs S (N ++ [n]) sv pv' := by
  refine ⟨?_, by rw [svals_append, List.length_append]; exact ho, ?_, ?_, h.nod, ?_, h.emp, ?_, h.here⟩
  · exact h.segs.kept hg (own_ne fun k hk e => h.apart k e hk)
  · intro k hs hp
    rcases hX with e | e
    · exact h.apart k hs (e ▸ hp)
    · rw [e] at hp; cases hp
      have := (h.segs.lt _ hs).2; omega
  · exact h.inn.keep fun g hgm => hg.block g (h.inn.lt hgm) (fun e => (h.far g hgm).2.2 e.symm)
  · intro g hgm
    refine ⟨(h.far g hgm).1, (h.far g hgm).2.1, ?_⟩
    rcases hX with e | e
    · rw [e]; exact (h.far g hgm).2.2
    · rw [e]; intro e2; cases e2; have := h.inn.lt hgm; omega
  · exact ⟨hg.os.trans h.old.os, hg.tape.trans h.old.tape, hg.output.trans h.old.output, Nat.le_trans h.old.size hg.size, fun k hk => (hg.block k (Nat.lt_of_lt_of_le hk h.old.size) (fun e => by have := (h.names.lt _ e.symm).1; have := h.here; omega)).trans (h.old.block k hk)⟩
/-- A segment more. -/
theorem PR.seg {w W W2 : World} {P : Nat} {gs : List Nat} {cvs : List Value} {S : List Seg} {N : List Bs} {sv pv sv' : Value} (h : PR w W P gs cvs S N sv pv) {g : Nat} {x : Seg} {cv : Value} {X : Nat}
    (hso : SegObj W g x cv) (hgn : g ∉ gs) (hgP : P < g) (hgs : sv.ownBlock ≠ some g) (hgp : pv.ownBlock ≠ some g) (hcv : ∃ a cap, cv = .slice a 0 cap)
    (ho : W2.ownsRow (P + 1) 96 1 sv' (gs.length + 1) (ptrs gs ++ ptrs [g])) (hg : W.grownBy W2 sv.ownBlock) (hX : sv'.ownBlock = sv.ownBlock ∨ sv'.ownBlock = some X) (hx : W.heap.size ≤ X) : PR w W2 P (gs ++ [g]) (cvs ++ [cv]) (S ++ [x]) N sv' pv := by
  refine ⟨by rw [List.length_append, show ptrs (gs ++ [g]) = ptrs gs ++ ptrs [g] by simp [ptrs]]; exact ho, ?_, ?_, ?_, ?_, ?_, ?_, ?_, h.here⟩
  · exact h.names.kept hg (own_ne fun k hk e => h.apart k hk e)
  · intro k hs hp
    rcases hX with e | e
    · exact h.apart k (e ▸ hs) hp
    · rw [e] at hs; cases hs
      have := (h.names.lt _ hp).2; omega
  · refine SegsIn.snoc (h.inn.keep fun g' hgm => hg.block g' (h.inn.lt hgm) (fun e => (h.far g' hgm).2.1 e.symm)) ?_
    exact (hg.block g hso.lt (fun e => hgs e.symm)).trans hso
  · rw [List.nodup_append]
    exact ⟨h.nod, by simp, by intro a ha b hb; obtain rfl : b = g := by simpa using hb
                              rintro rfl; exact hgn ha⟩
  · intro g' hgm
    have hlt : g' < W.heap.size := by
      rcases List.mem_append.1 hgm with hm | hm
      · exact h.inn.lt hm
      · obtain rfl : g' = g := by simpa using hm
        exact hso.lt
    have hb : P < g' ∧ sv.ownBlock ≠ some g' ∧ pv.ownBlock ≠ some g' := by
      rcases List.mem_append.1 hgm with hm | hm
      · exact h.far g' hm
      · obtain rfl : g' = g := by simpa using hm
        exact ⟨hgP, hgs, hgp⟩
    refine ⟨hb.1, ?_, hb.2.2⟩
    rcases hX with e | e
    · rw [e]; exact hb.2.1
    · rw [e]; intro e2; cases e2; omega
  · intro c hc
    rcases List.mem_append.1 hc with hm | hm
    · exact h.emp c hm
    · obtain rfl : c = cv := by simpa using hm
      exact hcv
  · exact ⟨hg.os.trans h.old.os, hg.tape.trans h.old.tape, hg.output.trans h.old.output, Nat.le_trans h.old.size hg.size, fun k hk => (hg.block k (Nat.lt_of_lt_of_le hk h.old.size) (fun e => by have := (h.segs.lt _ e.symm).1; have := h.here; omega)).trans (h.old.block k hk)⟩

/-- The parser's block, too. -/
def PS (w W : World) (P : Nat) (gs : List Nat) (cvs : List Value) (S : List Seg) (N : List Bs) (st pl : Nat) (sv pv : Value) : Prop :=
  W.heap[P]? = some (.cells #[sv, pv, .int .i64 (st : Nat), .int .i64 (pl : Nat)] 79 (0, 0)) ∧ PR w W P gs cvs S N sv pv

/-- What a parser's segments are held to while the loop goes on. -/
def Fresh (B : Nat) (S : List Seg) : Prop := ∀ x ∈ S, x.const.length ≤ B ∧ x.partCount = 0 ∧ x.cmp = []
theorem Fresh.snoc {B : Nat} {S : List Seg} {x : Seg} (h : Fresh B S) (h1 : x.const.length ≤ B) (h2 : x.partCount = 0) (h3 : x.cmp = []) : Fresh B (S ++ [x]) := by
  intro y hy
  rcases List.mem_append.1 hy with hm | hm
  · exact h y hm
  · obtain rfl : y = x := by simpa using hm
    exact ⟨h1, h2, h3⟩
theorem paramPart_plain {p : Bs} {st pl : Nat} (h : stOf p = none) : paramPart p st pl = some (plainPart p st pl) := by
  unfold paramPart plainPart partOf
  unfold stOf at h
  simp only [h]
theorem stOf_none {p : Bs} (h : ∀ x ∈ p, x ≠ 60) : stOf p = none := by
  unfold stOf
  split
  · unfold nne nextCS
    have : (List.findIdx? (fun b => ([60] : Bs).contains b) (List.take (paramEnd p) p)) = none := by
      rw [List.findIdx?_eq_none_iff]
      intro x hx
      have := h x (List.mem_of_mem_take hx)
      simpa using this
    rw [this]
  · rfl
theorem paramPos_lt {p : Bs} {n : Nat} (h : paramPos p = some n) : n < p.length := by
  unfold paramPos at h
  split at h
  · cases h
  · rename_i i hi
    have h1 := nne_lt hi
    split at h
    · rename_i hc
      have h2 := nne_lt hc.2
      rw [List.length_drop] at h2
      cases h; omega
    · cases h; exact h1

/-- One round of the loop, a parameter; a constant part. -/
theorem go_step_param {k : Nat} {p : Bs} {st pl : Nat} {S : List Seg} {N : List Bs} (h : paramPos p = some 0) (h60 : ∀ x ∈ p, x ≠ 60) :
    parseGo (k + 1) p st pl S N = parseGo k (p.drop (plainPart p st pl).1.length) (plainPart p st pl).2.2.1 (plainPart p st pl).2.2.2 (S ++ [(plainPart p st pl).2.1]) (N ++ [(plainPart p st pl).2.1.name]) := by
  have h0 : p ≠ [] := by rintro rfl; have := paramPos_lt h; simp at this
  conv => lhs; unfold parseGo
  rw [if_neg h0, h]
  simp only [paramPart_plain (stOf_none h60)]
theorem go_step_const {k : Nat} {p : Bs} {st pl : Nat} {S : List Seg} {N : List Bs} (h0 : p ≠ []) (h : paramPos p ≠ some 0) :
    parseGo (k + 1) p st pl S N = parseGo k (p.drop (constPart p (paramPos p)).1.length) st pl (S ++ [(constPart p (paramPos p)).2]) N := by
  conv => lhs; unfold parseGo
  rw [if_neg h0]
  cases hp : paramPos p with
  | none => rfl
  | some n => cases n with
    | zero => exact absurd hp h
    | succ n => rfl
theorem go_step_end {k : Nat} {st pl : Nat} {S : List Seg} {N : List Bs} : parseGo k [] st pl S N = some (S, N) := by
  cases k with
  | zero => rfl
  | succ k => unfold parseGo; rw [if_pos rfl]
theorem plainPart_take (p : Bs) (st pl : Nat) : (plainPart p st pl).1 = p.take (paramEnd p + 1) := rfl
theorem plainPart_facts (p : Bs) (st pl : Nat) : (plainPart p st pl).2.1.const = [] ∧ (plainPart p st pl).2.1.partCount = 0 ∧ (plainPart p st pl).2.1.cmp = [] ∧ (plainPart p st pl).2.1.cons = [] ∧ (plainPart p st pl).2.2.1 ≤ st + 1 ∧ (plainPart p st pl).2.2.2 ≤ pl + 1 := by
  refine ⟨rfl, rfl, rfl, rfl, ?_, ?_⟩
  · unfold plainPart partOf; simp only; split <;> omega
  · unfold plainPart partOf; simp only; split <;> omega
theorem constPart_facts (p : Bs) (o : Option Nat) : (constPart p o).2.const.length ≤ p.length ∧ (constPart p o).2.partCount = 0 ∧ (constPart p o).2.cmp = [] ∧ (constPart p o).2.cons = [] := by
  refine ⟨?_, rfl, rfl, rfl⟩
  unfold constPart
  cases o with
  | none => exact List.length_filter_le _ _
  | some n => exact Nat.le_trans (List.length_filter_le _ _) (by rw [List.length_take]; omega)
end Go.Proofs.YtiebedcldbmlhaaGreatDoor
