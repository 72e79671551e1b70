/-
  Joined: What parseRoute has laid while it goes on: its parser's block, the rows of segments and names; What the segments of a parsed pattern without constraints are held to: sizes, counts, lengths. No program in this text.   Conditions: patterns of at most a million bytes without the sign that begins a constraint; zzCount of a text that is not empty makes no memory; A region that draws its order: an operation that only reads may be taken first where what it reads is kept by every operation that could come before it; Plain laws on patterns of words: what the parser makes of them and which paths they match. No program in this text.   Conditions: the parts are words.
  Conditions: each law's own.
-/
import Derived.Test.YtiebedcldbmlhaaGreatDoorK24
import Derived.Test.YtiebedcldbmlhaaGreatDoorK22
import Derived.Maps.AppendAt
import Derived.Test.YtiebedcldbmlhaaGreatDoorK21
import Derived.OrdersHeld
import Derived.Deep.RegionLaw
import Derived.Test.YtiebedcldbmlhaaGreatDoorK20
namespace Go.Proofs.YtiebedcldbmlhaaGreatDoor
open Go.RowKit
set_option linter.unusedVariables false

theorem own_ne {v : Value} {row : Option Nat} (h : ∀ k, row = some k → v.ownBlock ≠ some k) : v.ownBlock = none ∨ v.ownBlock ≠ row := by
  cases row with
  | some k => exact .inr (h k rfl)
  | none => cases hv : v.ownBlock with
    | none => exact .inl rfl
    | some k => exact .inr (by simp)
/-- The rows of a parser, and the segments. -/
structure PR (w W : World) (P : Nat) (gs : List Nat) (cvs : List Value) (S : List Seg) (N : List Bs) (sv pv : Value) : Prop where
  segs : W.ownsRow (P + 1) 96 1 sv gs.length (ptrs gs)
  names : W.ownsRow (P + 1) 9 1 pv N.length (svals N)
  apart : ∀ k, sv.ownBlock = some k → pv.ownBlock ≠ some k
  inn : SegsIn W gs S cvs
  nod : gs.Nodup
  far : ∀ g ∈ gs, P < g ∧ sv.ownBlock ≠ some g ∧ pv.ownBlock ≠ some g
  emp : ∀ cv ∈ cvs, ∃ a cap, cv = .slice a 0 cap
  old : Below w.heap.size w W
  here : w.heap.size ≤ P

theorem SegsIn.lt {W : World} {gs : List Nat} {S : List Seg} {cvs : List Value} (h : SegsIn W gs S cvs) {g : Nat} (hg : g ∈ gs) : g < W.heap.size := by
  obtain ⟨i, hi, rfl⟩ := List.getElem_of_mem hg
  have hS : i < S.length := by rw [← h.1]; exact hi
  obtain ⟨g', cv, h1, _, h3⟩ := h.2.2 i S[i] (List.getElem?_eq_getElem hS)
  rw [List.getElem?_eq_getElem hi] at h1
  cases h1
  exact h3.lt
theorem SegsIn.keep {W W2 : World} {gs : List Nat} {S : List Seg} {cvs : List Value} (h : SegsIn W gs S cvs) (hk : ∀ g ∈ gs, W2.heap[g]? = W.heap[g]?) : SegsIn W2 gs S cvs :=
  ⟨h.1, h.2.1, fun i x hx => by
    obtain ⟨g, cv, h1, h2, h3⟩ := h.2.2 i x hx
    exact ⟨g, cv, h1, h2, (hk g (List.mem_of_getElem? h1)).trans h3⟩⟩
theorem SegsIn.snoc {W : World} {gs : List Nat} {S : List Seg} {cvs : List Value} (h : SegsIn W gs S cvs) {g : Nat} {x : Seg} {cv : Value} (ho : SegObj W g x cv) : SegsIn W (gs ++ [g]) (S ++ [x]) (cvs ++ [cv]) := by
  refine ⟨by simp [h.1], by simp [h.2.1], fun i y hy => ?_⟩
  have h1 := h.1
  have h2 := h.2.1
  by_cases hi : i < S.length
  · rw [List.getElem?_append_left hi] at hy
    obtain ⟨g', cv', a, b, c⟩ := h.2.2 i y hy
    exact ⟨g', cv', by rw [List.getElem?_append_left (by omega)]; exact a, by rw [List.getElem?_append_left (by omega)]; exact b, c⟩
  · rw [List.getElem?_append_right (by omega)] at hy
    obtain ⟨hl, hy⟩ := List.getElem?_eq_some_iff.1 hy
    have hi0 : i - S.length = 0 := by simp at hl; omega
    obtain rfl : x = y := by simpa [hi0] using hy
    exact ⟨g, cv, by rw [List.getElem?_append_right (by omega), show i - gs.length = 0 by omega]; rfl, by rw [List.getElem?_append_right (by omega), show i - cvs.length = 0 by omega]; rfl, ho⟩

theorem PR.row_lt {w W : World} {P : Nat} {gs : List Nat} {cvs : List Value} {S : List Seg} {N : List Bs} {sv pv : Value} (h : PR w W P gs cvs S N sv pv) {k : Nat} (hk : pv.ownBlock = some k) : k < W.heap.size := (h.names.lt _ hk).2
theorem PR.srow_lt {w W : World} {P : Nat} {gs : List Nat} {cvs : List Value} {S : List Seg} {N : List Bs} {sv pv : Value} (h : PR w W P gs cvs S N sv pv) {k : Nat} (hk : sv.ownBlock = some k) : k < W.heap.size := (h.segs.lt _ hk).2
theorem PR.size {w W : World} {P : Nat} {gs : List Nat} {cvs : List Value} {S : List Seg} {N : List Bs} {sv pv : Value} (h : PR w W P gs cvs S N sv pv) : w.heap.size ≤ W.heap.size := h.old.size

/-- A step that leaves all old blocks but one that is none of these. -/
theorem PR.keep {w W W2 : World} {P : Nat} {gs : List Nat} {cvs : List Value} {S : List Seg} {N : List Bs} {sv pv : Value} (h : PR w W P gs cvs S N sv pv) {row : Option Nat} (hg : W.grownBy W2 row)
    (h1 : ∀ k, row = some k → w.heap.size ≤ k) (h2 : ∀ k, row = some k → sv.ownBlock ≠ some k ∧ pv.ownBlock ≠ some k ∧ k ∉ gs) : PR w W2 P gs cvs S N sv pv where
  segs := h.segs.kept hg (own_ne fun k hk => (h2 k hk).1)
  names := h.names.kept hg (own_ne fun k hk => (h2 k hk).2.1)
  apart := h.apart
  inn := h.inn.keep fun g hgm => hg.block g (h.inn.lt hgm) (fun e => (h2 g e.symm).2.2 hgm)
  nod := h.nod
  far := h.far
  emp := h.emp
  old := ⟨hg.os.trans h.old.os, hg.tape.trans h.old.tape, hg.output.trans h.old.output, Nat.le_trans h.old.size hg.size, fun k hk => (hg.block k (Nat.lt_of_lt_of_le hk h.old.size) (fun e => by have := h1 k e.symm; omega)).trans (h.old.block k hk)⟩
  here := h.here
theorem PR.below {w W W2 : World} {P : Nat} {gs : List Nat} {cvs : List Value} {S : List Seg} {N : List Bs} {sv pv : Value} (h : PR w W P gs cvs S N sv pv) (hb : Below W.heap.size W W2) : PR w W2 P gs cvs S N sv pv :=
  h.keep (grown_of_below hb) (by intro k hk; cases hk) (by intro k hk; cases hk)
theorem PR.own {w W W2 : World} {P : Nat} {gs : List Nat} {cvs : List Value} {S : List Seg} {N : List Bs} {sv pv : Value} (h : PR w W P gs cvs S N sv pv) (hg : W.grownBy W2 (some P)) : PR w W2 P gs cvs S N sv pv :=
  h.keep hg (by intro k hk; cases hk; exact h.here) (by
    intro k hk; cases hk
    exact ⟨fun e => by have := (h.segs.lt _ e).1; omega, fun e => by have := (h.names.lt _ e).1; omega, fun e => by have := (h.far _ e).1; omega⟩)
theorem PR.setP {w W : World} {P : Nat} {gs : List Nat} {cvs : List Value} {S : List Seg} {N : List Bs} {sv pv : Value} (h : PR w W P gs cvs S N sv pv) (i : Nat) (v : Value) : PR w (W.setCell ⟨P, i, none⟩ v) P gs cvs S N sv pv :=
  h.own ⟨rfl, rfl, rfl, by simp, fun k hk hne => Below.heap_setCell W ⟨P, i, none⟩ v k (fun e => hne (by rw [e]))⟩
/-- A name more. -/
theorem PR.name {w W W2 : World} {P : Nat} {gs : List Nat} {cvs : List Value} {S : List Seg} {N : List Bs} {sv pv pv' : Value} (h : PR w W P gs cvs S N sv pv) {n : Bs} {X : Nat}
    (ho : W2.ownsRow (P + 1) 9 1 pv' (N.length + 1) (svals N ++ svals [n])) (hg : W.grownBy W2 pv.ownBlock) (hX : pv'.ownBlock = pv.ownBlock ∨ pv'.ownBlock = some X) (hx : W.heap.size ≤ X) : PR w W2 P gs cvs S (N ++ [n]) sv pv' := by
  refine ⟨?_, by rw [svals_append, List.length_append]; exact ho, ?_, ?_, h.nod, ?_, h.emp, ?_, h.here⟩
  · exact h.segs.kept hg (own_ne fun k hk e => h.apart k e hk)
  · intro k hs hp
    rcases hX with e | e
    · exact h.apart k hs (e ▸ hp)
    · rw [e] at hp; cases hp
      have := (h.segs.lt _ hs).2; omega
  · exact h.inn.keep fun g hgm => hg.block g (h.inn.lt hgm) (fun e => (h.far g hgm).2.2 e.symm)
  · intro g hgm
    refine ⟨(h.far g hgm).1, (h.far g hgm).2.1, ?_⟩
    rcases hX with e | e
    · rw [e]; exact (h.far g hgm).2.2
    · rw [e]; intro e2; cases e2; have := h.inn.lt hgm; omega
  · exact ⟨hg.os.trans h.old.os, hg.tape.trans h.old.tape, hg.output.trans h.old.output, Nat.le_trans h.old.size hg.size, fun k hk => (hg.block k (Nat.lt_of_lt_of_le hk h.old.size) (fun e => by have := (h.names.lt _ e.symm).1; have := h.here; omega)).trans (h.old.block k hk)⟩
/-- A segment more. -/
theorem PR.seg {w W W2 : World} {P : Nat} {gs : List Nat} {cvs : List Value} {S : List Seg} {N : List Bs} {sv pv sv' : Value} (h : PR w W P gs cvs S N sv pv) {g : Nat} {x : Seg} {cv : Value} {X : Nat}
    (hso : SegObj W g x cv) (hgn : g ∉ gs) (hgP : P < g) (hgs : sv.ownBlock ≠ some g) (hgp : pv.ownBlock ≠ some g) (hcv : ∃ a cap, cv = .slice a 0 cap)
    (ho : W2.ownsRow (P + 1) 96 1 sv' (gs.length + 1) (ptrs gs ++ ptrs [g])) (hg : W.grownBy W2 sv.ownBlock) (hX : sv'.ownBlock = sv.ownBlock ∨ sv'.ownBlock = some X) (hx : W.heap.size ≤ X) : PR w W2 P (gs ++ [g]) (cvs ++ [cv]) (S ++ [x]) N sv' pv := by
  refine ⟨by rw [List.length_append, show ptrs (gs ++ [g]) = ptrs gs ++ ptrs [g] by simp [ptrs]]; exact ho, ?_, ?_, ?_, ?_, ?_, ?_, ?_, h.here⟩
  · exact h.names.kept hg (own_ne fun k hk e => h.apart k hk e)
  · intro k hs hp
    rcases hX with e | e
    · exact h.apart k (e ▸ hs) hp
    · rw [e] at hs; cases hs
      have := (h.names.lt _ hp).2; omega
  · refine SegsIn.snoc (h.inn.keep fun g' hgm => hg.block g' (h.inn.lt hgm) (fun e => (h.far g' hgm).2.1 e.symm)) ?_
    exact (hg.block g hso.lt (fun e => hgs e.symm)).trans hso
  · rw [List.nodup_append]
    exact ⟨h.nod, by simp, by intro a ha b hb; obtain rfl : b = g := by simpa using hb
                              rintro rfl; exact hgn ha⟩
  · intro g' hgm
    have hlt : g' < W.heap.size := by
      rcases List.mem_append.1 hgm with hm | hm
      · exact h.inn.lt hm
      · obtain rfl : g' = g := by simpa using hm
        exact hso.lt
    have hb : P < g' ∧ sv.ownBlock ≠ some g' ∧ pv.ownBlock ≠ some g' := by
      rcases List.mem_append.1 hgm with hm | hm
      · exact h.far g' hm
      · obtain rfl : g' = g := by simpa using hm
        exact ⟨hgP, hgs, hgp⟩
    refine ⟨hb.1, ?_, hb.2.2⟩
    rcases hX with e | e
    · rw [e]; exact hb.2.1
    · rw [e]; intro e2; cases e2; omega
  · intro c hc
    rcases List.mem_append.1 hc with hm | hm
    · exact h.emp c hm
    · obtain rfl : c = cv := by simpa using hm
      exact hcv
  · exact ⟨hg.os.trans h.old.os, hg.tape.trans h.old.tape, hg.output.trans h.old.output, Nat.le_trans h.old.size hg.size, fun k hk => (hg.block k (Nat.lt_of_lt_of_le hk h.old.size) (fun e => by have := (h.segs.lt _ e.symm).1; have := h.here; omega)).trans (h.old.block k hk)⟩

/-- The parser's block, too. -/
def PS (w W : World) (P : Nat) (gs : List Nat) (cvs : List Value) (S : List Seg) (N : List Bs) (st pl : Nat) (sv pv : Value) : Prop :=
  W.heap[P]? = some (.cells #[sv, pv, .int .i64 (st : Nat), .int .i64 (pl : Nat)] 79 (0, 0)) ∧ PR w W P gs cvs S N sv pv

/-- What a parser's segments are held to while the loop goes on. -/
def Fresh (B : Nat) (S : List Seg) : Prop := ∀ x ∈ S, x.const.length ≤ B ∧ x.partCount = 0 ∧ x.cmp = []
theorem Fresh.snoc {B : Nat} {S : List Seg} {x : Seg} (h : Fresh B S) (h1 : x.const.length ≤ B) (h2 : x.partCount = 0) (h3 : x.cmp = []) : Fresh B (S ++ [x]) := by
  intro y hy
  rcases List.mem_append.1 hy with hm | hm
  · exact h y hm
  · obtain rfl : y = x := by simpa using hm
    exact ⟨h1, h2, h3⟩
theorem paramPart_plain {p : Bs} {st pl : Nat} (h : stOf p = none) : paramPart p st pl = some (plainPart p st pl) := by
  unfold paramPart plainPart partOf
  unfold stOf at h
  simp only [h]
theorem stOf_none {p : Bs} (h : ∀ x ∈ p, x ≠ 60) : stOf p = none := by
  unfold stOf
  split
  · unfold nne nextCS
    have : (List.findIdx? (fun b => ([60] : Bs).contains b) (List.take (paramEnd p) p)) = none := by
      rw [List.findIdx?_eq_none_iff]
      intro x hx
      have := h x (List.mem_of_mem_take hx)
      simpa using this
    rw [this]
  · rfl
theorem paramPos_lt {p : Bs} {n : Nat} (h : paramPos p = some n) : n < p.length := by
  unfold paramPos at h
  split at h
  · cases h
  · rename_i i hi
    have h1 := nne_lt hi
    split at h
    · rename_i hc
      have h2 := nne_lt hc.2
      rw [List.length_drop] at h2
      cases h; omega
    · cases h; exact h1

/-- One round of the loop, a parameter; a constant part. -/
theorem go_step_param {k : Nat} {p : Bs} {st pl : Nat} {S : List Seg} {N : List Bs} (h : paramPos p = some 0) (h60 : ∀ x ∈ p, x ≠ 60) :
    parseGo (k + 1) p st pl S N = parseGo k (p.drop (plainPart p st pl).1.length) (plainPart p st pl).2.2.1 (plainPart p st pl).2.2.2 (S ++ [(plainPart p st pl).2.1]) (N ++ [(plainPart p st pl).2.1.name]) := by
  have h0 : p ≠ [] := by rintro rfl; have := paramPos_lt h; simp at this
  conv => lhs; unfold parseGo
  rw [if_neg h0, h]
  simp only [paramPart_plain (stOf_none h60)]
theorem go_step_const {k : Nat} {p : Bs} {st pl : Nat} {S : List Seg} {N : List Bs} (h0 : p ≠ []) (h : paramPos p ≠ some 0) :
    parseGo (k + 1) p st pl S N = parseGo k (p.drop (constPart p (paramPos p)).1.length) st pl (S ++ [(constPart p (paramPos p)).2]) N := by
  conv => lhs; unfold parseGo
  rw [if_neg h0]
  cases hp : paramPos p with
  | none => rfl
  | some n => cases n with
    | zero => exact absurd hp h
    | succ n => rfl
theorem go_step_end {k : Nat} {st pl : Nat} {S : List Seg} {N : List Bs} : parseGo k [] st pl S N = some (S, N) := by
  cases k with
  | zero => rfl
  | succ k => unfold parseGo; rw [if_pos rfl]
theorem plainPart_take (p : Bs) (st pl : Nat) : (plainPart p st pl).1 = p.take (paramEnd p + 1) := rfl
theorem plainPart_facts (p : Bs) (st pl : Nat) : (plainPart p st pl).2.1.const = [] ∧ (plainPart p st pl).2.1.partCount = 0 ∧ (plainPart p st pl).2.1.cmp = [] ∧ (plainPart p st pl).2.1.cons = [] ∧ (plainPart p st pl).2.2.1 ≤ st + 1 ∧ (plainPart p st pl).2.2.2 ≤ pl + 1 := by
  refine ⟨rfl, rfl, rfl, rfl, ?_, ?_⟩
  · unfold plainPart partOf; simp only; split <;> omega
  · unfold plainPart partOf; simp only; split <;> omega
theorem constPart_facts (p : Bs) (o : Option Nat) : (constPart p o).2.const.length ≤ p.length ∧ (constPart p o).2.partCount = 0 ∧ (constPart p o).2.cmp = [] ∧ (constPart p o).2.cons = [] := by
  refine ⟨?_, rfl, rfl, rfl⟩
  unfold constPart
  cases o with
  | none => exact List.length_filter_le _ _
  | some n => exact Nat.le_trans (List.length_filter_le _ _) (by rw [List.length_take]; omega)
end Go.Proofs.YtiebedcldbmlhaaGreatDoor
namespace Go.Proofs.YtiebedcldbmlhaaGreatDoor
open Go.RowKit
set_option linter.unusedVariables false

def Pre (x : Seg) : Prop := x.const.length ≤ 1000000 ∧ x.partCount = 0 ∧ x.cmp.length ≤ 1000000 ∧ x.cons = [] ∧ (x.isParam = true → x.length = 0) ∧ (x.isParam = false → x.length = x.const.length)
/-- What a walk over a segment wants. -/
structure Good (x : Seg) : Prop where
  const : x.const.length ≤ 1000000
  cmp : x.cmp.length ≤ 1000000
  pc0 : 0 ≤ x.partCount
  pc1 : x.partCount ≤ 140737488351232
  len0 : 0 ≤ x.length
  len1 : x.length ≤ 1000000
  cons : x.cons = []
  own : x.isParam = false → x.length = x.const.length ∧ x.const ≠ []

theorem good_meta : ∀ (L M : List Seg), metaFwd L = some M → L.length ≤ 1000000 → (∀ x ∈ L, Pre x) → (∀ y ∈ M, Good y) ∧ M.map (·.isParam) = L.map (·.isParam) ∧ M.map (·.name) = L.map (·.name)
  | [], M, h, hl, hp => by
    have : M = [] := by unfold metaFwd at h; cases h; rfl
    subst this
    exact ⟨by simp, rfl, rfl⟩
  | x :: r, M, h, hl, hp => by
    have hx := hp x (List.mem_cons_self ..)
    have hr : ∀ y ∈ r, Pre y := fun y hy => hp y (List.mem_cons_of_mem _ hy)
    have hrl : r.length ≤ 1000000 := by simp at hl; omega
    cases hip : x.isParam with
    | true =>
      obtain ⟨T', hT, rfl⟩ := mf_param h hip
      obtain ⟨i1, i2, i3⟩ := good_meta r T' hT hrl hr
      refine ⟨fun y hy => ?_, by simp [i2], by simp [i3]⟩
      rcases List.mem_cons.1 hy with rfl | hy
      · have hpc : 0 ≤ (if x.cmp = [] then x.partCount else r.foldl (addC x.cmp) x.partCount) ∧ (if x.cmp = [] then x.partCount else r.foldl (addC x.cmp) x.partCount) ≤ 140737488351232 := by
          split
          · rw [hx.2.1]; omega
          · have := addC_fold x.cmp r (fun y hy => (hr y hy).1) x.partCount hx.2.1
            omega
        have hlo : 0 ≤ lenOf x r ∧ lenOf x r ≤ 1000000 := by
          unfold lenOf
          split
          · omega
          · rw [hx.2.2.2.2.1 hip]; omega
        exact ⟨hx.1, hx.2.2.1, hpc.1, hpc.2, hlo.1, hlo.2, hx.2.2.2.1, fun h => by rw [hip] at h; cases h⟩
      · exact i1 y hy
    | false =>
      obtain ⟨c, T', hc, hT, rfl⟩ := mf_const h hip
      obtain ⟨i1, i2, i3⟩ := good_meta r T' hT hrl hr
      have hown : x.length = x.const.length ∧ x.const ≠ [] := ⟨hx.2.2.2.2.2 hip, by rintro e; rw [e] at hc; cases hc⟩
      have hxc := hx.1
      refine ⟨fun y hy => ?_, ?_, ?_⟩
      · rcases List.mem_cons.1 hy with rfl | hy
        · split
          · exact ⟨hx.1, hx.2.2.1, by show (0 : Int) ≤ x.partCount; rw [hx.2.1]; omega, by show x.partCount ≤ _; rw [hx.2.1]; omega, by show (0 : Int) ≤ x.length; rw [hown.1]; omega, by show x.length ≤ _; rw [hown.1]; omega, hx.2.2.2.1, fun _ => hown⟩
          · exact ⟨hx.1, hx.2.2.1, by rw [hx.2.1]; omega, by rw [hx.2.1]; omega, by rw [hown.1]; omega, by rw [hown.1]; omega, hx.2.2.2.1, fun _ => hown⟩
        · exact i1 y hy
      · rw [List.map_cons, List.map_cons, i2]; congr 1; split <;> rfl
      · rw [List.map_cons, List.map_cons, i3]; congr 1; split <;> rfl

theorem pre_back : ∀ (L : List Seg), (∀ x ∈ L, Pre x ∧ x.cmp = []) → (∀ y ∈ (cmpBack L).1, Pre y) ∧ (cmpBack L).1.map (·.isParam) = L.map (·.isParam) ∧ (cmpBack L).1.map (·.name) = L.map (·.name)
  | [], h => ⟨by simp [cmpBack], rfl, rfl⟩
  | x :: r, h => by
    obtain ⟨i1, i2, i3⟩ := pre_back r fun z hz => h z (List.mem_cons_of_mem _ hz)
    have hx := (h x (List.mem_cons_self ..)).1
    cases hp : x.isParam with
    | true =>
      rw [cmpBack_param hp]
      refine ⟨fun y hy => ?_, by simp [i2], by simp [i3]⟩
      rcases List.mem_cons.1 hy with rfl | hy
      · have h1 := List.length_filter_le (· != 92) (cmpBack r).2
        have h2 := cmpBack_le (B := 1000000) r fun z hz => (h z (List.mem_cons_of_mem _ hz)).1.1
        refine ⟨hx.1, hx.2.1, ?_, hx.2.2.2.1, hx.2.2.2.2.1, hx.2.2.2.2.2⟩
        show (List.filter (· != 92) _).length ≤ _
        omega
      · exact i1 y hy
    | false =>
      rw [cmpBack_const hp]
      refine ⟨fun y hy => ?_, by simp [i2], by simp [i3]⟩
      rcases List.mem_cons.1 hy with rfl | hy
      · exact hx
      · exact i1 y hy
theorem mark_snoc (l : List Seg) (x : Seg) : markLast (l ++ [x]) = l ++ [{ x with last := true }] := by
  unfold markLast
  rw [List.reverse_append]
  simp
theorem mark_keep {L : List Seg} {Q : Seg → Prop} (hQ : ∀ x, Q x → Q { x with last := true }) (h : ∀ x ∈ L, Q x) : ∀ x ∈ markLast L, Q x := by
  rcases List.eq_nil_or_concat L with rfl | ⟨l, x, rfl⟩
  · intro x hx; cases hx
  · rw [List.concat_eq_append] at h ⊢
    rw [mark_snoc]
    intro y hy
    rcases List.mem_append.1 hy with hm | hm
    · exact h y (List.mem_append_left _ hm)
    · obtain rfl : y = { x with last := true } := by simpa using hm
      exact hQ x (h x (by simp))
theorem mark_map {α : Type} (f : Seg → α) (hf : ∀ x, f { x with last := true } = f x) (L : List Seg) : (markLast L).map f = L.map f := by
  rcases List.eq_nil_or_concat L with rfl | ⟨l, x, rfl⟩
  · rfl
  · rw [List.concat_eq_append, mark_snoc]; simp [hf]
theorem mark_length (L : List Seg) : (markLast L).length = L.length := by
  have := congrArg List.length (mark_map (fun _ => ()) (fun _ => rfl) L)
  simpa using this

theorem pre_go : ∀ (k : Nat) (p : Bs) (st pl : Nat) (S : List Seg) (N : List Bs) (T : List Seg) (U : List Bs), parseGo k p st pl S N = some (T, U) → (∀ x ∈ p, x ≠ 60) → p.length ≤ 1000000 → S.length + p.length ≤ 1000000 → (∀ x ∈ S, Pre x ∧ x.cmp = []) → N = (S.filter (·.isParam)).map (·.name) →
    (∀ x ∈ T, Pre x ∧ x.cmp = []) ∧ U = (T.filter (·.isParam)).map (·.name) ∧ T.length ≤ 1000000
  | 0, p, st, pl, S, N, T, U, h, h60, hl, hsl, hS, hN => by
    unfold parseGo at h; cases h
    exact ⟨hS, hN, by omega⟩
  | k + 1, p, st, pl, S, N, T, U, h, h60, hl, hsl, hS, hN => by
    by_cases h0 : p = []
    · subst h0
      rw [go_step_end] at h; cases h
      exact ⟨hS, hN, by simpa using hsl⟩
    · have hp0 : 0 < p.length := List.length_pos_iff.2 h0
      by_cases hp : paramPos p = some 0
      · rw [go_step_param hp h60] at h
        have hpf := plainPart_facts p st pl
        have hlen : 1 ≤ (plainPart p st pl).1.length := by rw [plainPart_take, List.length_take]; omega
        refine pre_go k _ _ _ _ _ T U h (fun x hx => h60 x (List.mem_of_mem_drop hx)) (by rw [List.length_drop]; omega) (by rw [List.length_drop, List.length_append, List.length_singleton]; omega) (fun x hx => ?_) ?_
        · rcases List.mem_append.1 hx with hm | hm
          · exact hS x hm
          · obtain rfl : x = (plainPart p st pl).2.1 := by simpa using hm
            refine ⟨⟨by rw [hpf.1]; simp, hpf.2.1, by rw [hpf.2.2.1]; simp, hpf.2.2.2.1, fun _ => rfl, fun h => ?_⟩, hpf.2.2.1⟩
            have : (plainPart p st pl).2.1.isParam = true := rfl
            rw [this] at h; cases h
        · rw [List.filter_append, List.map_append, ← hN]; rfl
      · rw [go_step_const h0 hp] at h
        have hcf := constPart_facts p (paramPos p)
        have hlen : 1 ≤ (constPart p (paramPos p)).1.length := by
          cases hpp : paramPos p with
          | none => show 1 ≤ p.length; omega
          | some n => show 1 ≤ (p.take n).length
                      rw [List.length_take]
                      have : n ≠ 0 := by rintro rfl; exact hp hpp
                      omega
        refine pre_go k _ _ _ _ _ T U h (fun x hx => h60 x (List.mem_of_mem_drop hx)) (by rw [List.length_drop]; omega) (by rw [List.length_drop, List.length_append, List.length_singleton]; omega) (fun x hx => ?_) ?_
        · rcases List.mem_append.1 hx with hm | hm
          · exact hS x hm
          · obtain rfl : x = (constPart p (paramPos p)).2 := by simpa using hm
            refine ⟨⟨by omega, hcf.2.1, by rw [hcf.2.2.1]; simp, hcf.2.2.2, fun h => ?_, fun _ => rfl⟩, hcf.2.2.1⟩
            have : (constPart p (paramPos p)).2.isParam = false := rfl
            rw [this] at h; cases h
        · rw [List.filter_append, List.map_append, ← hN]
          have : (constPart p (paramPos p)).2.isParam = false := rfl
          simp [this]
theorem filter_names : ∀ (L M : List Seg), M.map (·.isParam) = L.map (·.isParam) → M.map (·.name) = L.map (·.name) → (M.filter (·.isParam)).map (·.name) = (L.filter (·.isParam)).map (·.name)
  | [], M, h1, _ => by have : M = [] := by simpa using h1
                       subst this; rfl
  | x :: L, [], h1, _ => by cases h1
  | x :: L, y :: M, h1, h2 => by
    simp only [List.map_cons, List.cons.injEq] at h1 h2
    have := filter_names L M h1.2 h2.2
    cases hx : x.isParam with
    | true => rw [List.filter_cons_of_pos hx, List.filter_cons_of_pos (h1.1.trans hx), List.map_cons, List.map_cons, this, h2.1]
    | false =>
      rw [List.filter_cons_of_neg (p := fun z : Seg => z.isParam) (a := y) (by show ¬ y.isParam = true; rw [h1.1, hx]; simp), List.filter_cons_of_neg (p := fun z : Seg => z.isParam) (a := x) (by show ¬ x.isParam = true; rw [hx]; simp)]
      exact this
/-- What the parser leaves. -/
theorem parse_good {p : Bs} {M : List Seg} {N : List Bs} (h : parse p = some (M, N)) (h60 : ∀ x ∈ p, x ≠ 60) (hl : p.length ≤ 1000000) :
    (∀ x ∈ M, Good x) ∧ N = (M.filter (·.isParam)).map (·.name) ∧ N.length ≤ 30 ∧ M.length ≤ 1000000 := by
  unfold parse at h
  cases hg : parseGo p.length p 0 0 [] [] with
  | none => rw [hg] at h; cases h
  | some TU =>
    obtain ⟨T, U⟩ := TU
    rw [hg] at h
    simp only at h
    obtain ⟨h1, h2, h3⟩ := pre_go _ _ _ _ _ _ T U hg h60 hl (by simpa using hl) (by simp) rfl
    cases hm : metaFwd (cmpBack (markLast T)).1 with
    | none => rw [hm] at h; cases h
    | some l =>
      rw [hm] at h
      simp only at h
      split at h
      · cases h
      · rename_i h30
        cases h
        have hk := mark_keep (L := T) (Q := fun x => Pre x ∧ x.cmp = []) (fun x hx => ⟨hx.1, hx.2⟩) h1
        obtain ⟨b1, b2, b3⟩ := pre_back _ hk
        obtain ⟨g1, g2, g3⟩ := good_meta _ _ hm (by rw [cmpBack_length, mark_length]; exact h3) b1
        refine ⟨g1, ?_, by omega, by have h9 := congrArg List.length g2; rw [List.length_map, List.length_map, cmpBack_length, mark_length] at h9; omega⟩
        rw [h2]
        refine (filter_names _ _ ?_ ?_).symm
        · rw [g2, b2]; exact mark_map _ (fun _ => rfl) T
        · rw [g3, b3]; exact mark_map _ (fun _ => rfl) T
end Go.Proofs.YtiebedcldbmlhaaGreatDoor
namespace Go.Proofs.YtiebedcldbmlhaaGreatDoor
open Go.RowKit
set_option linter.unusedVariables false

set_option maxHeartbeats 1000000 in
theorem count_quiet (s t : ByteArray) (w : World) (hs : s.size ≤ 140737488351232) (ht : t.size ≤ 140737488351232) (h0 : ¬ t.size = 0) :
    Calls Tryz.prog 82 #[.string s, .string t] w fun e w' => e = .returned (.int .i64 (countS s.data.toList t.data.toList)) ∧ w = w' := by
  go_enter Tryz.func82, Tryz.ntmps82
  have h1 : 1 ≤ t.size := by omega
  have hR : countS s.data.toList t.data.toList = countGo t.data.toList (s.size + 1) s.data.toList := by
    unfold countS
    rw [if_neg (fun h => h0 (by rw [← size_data, h]; rfl)), size_data]
  have HR := Lib.hid hR
  clear hR
  go_wp2
  go_loop [5, 6] (fun n i => ∃ (k fuel m : Nat), i = .int .i64 k ∧ n = .int .i64 m ∧ m ≤ k ∧ k ≤ s.size ∧ s.size + 1 ≤ k + fuel ∧ m + countGo t.data.toList fuel (s.data.toList.drop k) = countGo t.data.toList (s.size + 1) s.data.toList) (fun _ i => s.size - (intOf i).toNat)
  case atStart => exact ⟨0, s.size + 1, 0, rfl, rfl, by omega, by omega, by omega, by simp⟩
  case round =>
    obtain ⟨k, fuel, m, rfl, rfl, hm, hks, hf, hc⟩ := hrel
    have HC := Lib.hid hc
    clear hc
    by_cases hlt : k + t.size ≤ s.size
    · have hsh : ¬ (s.data.toList.drop k).length < t.data.toList.length := by rw [List.length_drop, size_data, size_data]; omega
      obtain ⟨fuel, rfl⟩ : ∃ j, fuel = j + 1 := ⟨fuel - 1, by omega⟩
      have HS := Lib.hid hsh
      clear hsh
      have HP := Lib.hid (ext_pre s t k)
      go_wp2
      · have hb : ((s.extract k (k + t.size)).toList == t.toList) = true := by assumption
        go_round
        case rel =>
          refine ⟨k + t.size, fuel, m + 1, by go_num, by go_num, by omega, by omega, by omega, ?_⟩
          rw [← HC.out, countGo_hit HS.out (HP.out.1 (str_yes hb)), List.drop_drop, size_data]
          omega
        case measure => simp [intOf]; omega
      · have hb : ((s.extract k (k + t.size)).toList == t.toList) = false := by assumption
        go_round
        case rel =>
          refine ⟨k + 1, fuel, m, by go_num, by go_num, by omega, by omega, by omega, ?_⟩
          rw [← HC.out, countGo_miss HS.out (fun h => str_no hb (HP.out.2 h)), List.drop_drop]
        case measure => simp [intOf]; omega
    · have hn : countGo t.data.toList fuel (s.data.toList.drop k) = 0 := countGo_short (by rw [List.length_drop, size_data, size_data]; omega)
      have HN := Lib.hid hn
      clear hn
      go_wp2
      go_ret
      exact ⟨ret_int (by rw [HR.out, ← HC.out, HN.out]; omega), rfl⟩
end Go.Proofs.YtiebedcldbmlhaaGreatDoor
namespace Go.Proofs.YtiebedcldbmlhaaGreatDoor
open Go
set_option linter.unusedVariables false

section
variable {P : Program} {ops : Array Oper} {Q : Exit → Act → World → Prop} {md : Region.Mode} {S : World → Prop} {need : Nat → Bool}

/-- Whatever order is picked, and behind the operations that 'need' names the condition holds. -/
def AnyN (P : Program) (md : Region.Mode) (ops : Array Oper) (Q : Exit → Act → World → Prop) (S : World → Prop) (need : Nat → Bool) : Nat → Array Bool → Act → World → Prop
  | 0, done, a, w => Region.ready md ops done = [] ∧ Q .normal a w
  | n + 1, done, a, w => (Region.ready md ops done = [] → Q .normal a w) ∧
      ∀ j ∈ Region.ready md ops done, wpOp P ops Q j (fun b v => (need j = true → S v) ∧ AnyN P md ops Q S need n (done.setIfInBounds j true) b v) a w

theorem AnyN.plain : ∀ (n : Nat) (done : Array Bool) (a : Act) (w : World), AnyN P md ops Q S need n done a w → wpAny P md ops Q n done a w
  | 0, _, _, _, h => h
  | n + 1, _, _, _, h => ⟨h.1, fun j hj => wpOp_mono (fun b v k => AnyN.plain n _ b v k.2) (h.2 j hj)⟩

theorem AnyN.first {i : Nat} {o : Oper} {x : Value} {Y : World → Prop} (hi : ops[i]? = some o) (hsel : ∀ (j : Nat) (p : Oper) cs b, ops[j]? = some p → p.op ≠ .select cs b)
    (hQ : ∀ c a w, Q (.panic c) (a.put o.dst x) w → Q (.panic c) a w)
    (hSY : ∀ v, Y v → need i = true → S v) :
    ∀ (n : Nat) (done : Array Bool) (a : Act) (w : World),
      (∀ j p, ops[j]? = some p → j ≠ i → done.getD j true = false → (∀ e ∈ p.after, Region.binds md e = true → e.on ≠ i) → o.apart ops p = true) →
      (∀ (j : Nat) (p : Oper), ops[j]? = some p → j ≠ i → done.getD j true = false → (∀ e ∈ p.after, Region.binds md e = true → e.on ≠ i) → ∀ v, (need j = true → S v) → Y v) →
      i ∈ Region.ready md ops done → YieldsIf P ops Y o x a → Y w →
      AnyN P md ops Q S need n (done.setIfInBounds i true) (a.put o.dst x) w → AnyN P md ops Q S need (n + 1) done a w := by
  intro n
  induction n with
  | zero =>
    intro done a w _ _ hr hy hw H
    refine ⟨fun h => (by rw [h] at hr; cases hr), fun j hj => ?_⟩
    by_cases e : j = i
    · subst e; exact hy.wpOp hi hw ⟨hSY w hw, H⟩
    · have hm := ready_mono hj e
      rw [H.1] at hm
      cases hm
  | succ n ih =>
    intro done a w hap hY hr hy hw H
    refine ⟨fun h => (by rw [h] at hr; cases hr), fun j hj => ?_⟩
    by_cases e : j = i
    · subst e; exact hy.wpOp hi hw ⟨hSY w hw, H⟩
    · obtain ⟨hj0, p, hp, hall⟩ := mem_ready.1 hj
      have hno : ∀ e ∈ p.after, Region.binds md e = true → e.on ≠ i := fun e he hb heq => by
        have h1 := hall e he hb
        have h0 := (mem_ready.1 hr).1
        rw [heq] at h1
        rcases Nat.lt_or_ge i done.size with hlt | hge
        · simp [hlt] at h0 h1; rw [h0] at h1; cases h1
        · simp [Array.getElem?_eq_none hge] at h1
      have h2 := wpOp_putIf hp (hap j p hp e hj0 hno) (fun cs b => hsel i o cs b hi) (fun cs b => hsel j p cs b hp) hQ hy (H.2 j (ready_mono hj e))
      refine wpOp_mono (fun b v k => ⟨k.2.1, ih _ b v (fun k' pk hk hki hun hnk => ?_) (fun k' pk hk hki hun hnk => ?_) (ready_mono hr (Ne.symm e)) k.1 (hY j p hp e hj0 hno v k.2.1) ?_⟩) h2
      · refine hap k' pk hk hki ?_ hnk
        by_cases e2 : j = k'
        · subst e2; exact hj0
        · rw [getD_set_ne true e2] at hun; exact hun
      · refine hY k' pk hk hki ?_ hnk
        by_cases e2 : j = k'
        · subst e2; exact hj0
        · rw [getD_set_ne true e2] at hun; exact hun
      · rw [Array.setIfInBounds_comm _ _ e]
        exact k.2.2

/-- Does every other operation that does not wait for number i leave the condition to be shown? -/
def needOk (md : Region.Mode) (ops : Array Oper) (need : Nat → Bool) (done : Array Bool) (i : Nat) : Bool :=
  (List.range ops.size).all fun j => j == i || done.getD j true || need j || match ops[j]? with
    | some p => p.after.any (fun e => Region.binds md e && e.on == i)
    | none => true
theorem needOk_spec {i : Nat} {done : Array Bool} (h : needOk md ops need done i = true) (j : Nat) (p : Oper) (hp : ops[j]? = some p) (hne : j ≠ i) (hd : done.getD j true = false) (hno : ∀ e ∈ p.after, Region.binds md e = true → e.on ≠ i) : need j = true := by
  unfold needOk at h
  rw [List.all_eq_true] at h
  have h1 := h j (List.mem_range.2 (Array.getElem?_eq_some_iff.1 hp).1)
  simp only [hp, Bool.or_eq_true, beq_iff_eq, hne, false_or, hd, Bool.false_eq_true] at h1
  rcases h1 with h1 | h1
  · exact h1
  · obtain ⟨e, he, hb⟩ := Array.any_eq_true'.1 h1
    simp only [Bool.and_eq_true, beq_iff_eq] at hb
    exact absurd hb.2 (hno e he hb.1)

/-- A load that is taken first. -/
theorem AnyN.load {i : Nat} {o : Oper} {x : Value} {n : Nat} {done : Array Bool} {a : Act} {w : World} (hi : ops[i]? = some o) (hs : Region.noSelect ops = true) (hf : Region.free md ops done i = true)
    (hr : (Region.ready md ops done).contains i = true) (hn : needOk md ops need done i = true) (hQ : ∀ c a w, Q (.panic c) (a.put o.dst x) w → Q (.panic c) a w) (hy : YieldsIf P ops S o x a) (hw : S w)
    (h : AnyN P md ops Q S need n (done.setIfInBounds i true) (a.put o.dst x) w) : AnyN P md ops Q S need (n + 1) done a w :=
  AnyN.first (Y := S) hi (Region.noSelect_spec hs) hQ (fun v hv _ => hv) n done a w (Region.free_spec hi hf) (fun j p hp hne hd hno v hv => hv (needOk_spec hn j p hp hne hd hno)) (by simpa using hr) hy hw h
/-- An operation that looks at no memory. -/
theorem AnyN.take {i : Nat} {o : Oper} {x : Value} {n : Nat} {done : Array Bool} {a : Act} {w : World} (hi : ops[i]? = some o) (hs : Region.noSelect ops = true) (hf : Region.free md ops done i = true)
    (hr : (Region.ready md ops done).contains i = true) (hn : need i = false) (hQ : ∀ c a w, Q (.panic c) (a.put o.dst x) w → Q (.panic c) a w) (hy : Yields P ops o x a)
    (h : AnyN P md ops Q S need n (done.setIfInBounds i true) (a.put o.dst x) w) : AnyN P md ops Q S need (n + 1) done a w :=
  AnyN.first (Y := fun _ => True) hi (Region.noSelect_spec hs) hQ (fun v _ hc => by rw [hn] at hc; cases hc) n done a w (Region.free_spec hi hf) (fun _ _ _ _ _ _ _ _ => trivial) (by simpa using hr) hy.yieldsIf trivial h
theorem AnyN.all {rs : List Nat} {n : Nat} {done : Array Bool} {a : Act} {w : World} (hr : Region.ready md ops done = rs) (hne : rs ≠ [])
    (h : ∀ j ∈ rs, wpOp P ops Q j (fun b v => (need j = true → S v) ∧ AnyN P md ops Q S need n (done.setIfInBounds j true) b v) a w) : AnyN P md ops Q S need (n + 1) done a w :=
  ⟨fun h0 => absurd (hr ▸ h0) hne, hr ▸ h⟩
theorem AnyN.fin {done : Array Bool} {a : Act} {w : World} (hr : Region.ready md ops done = []) (h : Q .normal a w) : ∀ n, AnyN P md ops Q S need n done a w
  | 0 => ⟨hr, h⟩
  | _ + 1 => ⟨fun _ => h, by rw [hr]; simp⟩
/-- One operation, carried out. -/
theorem op_via {j : Nat} {o : Oper} {K : Act → World → Prop} {a : Act} {w : World} (hj : ops[j]? = some o) (hg : o.guard = none) (h : ∀ K' : Act → World → Prop, (∀ b v, K b v → K' b v) → Oper.wp P o a w K' Q) : wpOp P ops Q j K a w := by
  unfold wpOp
  simp only [hj]
  have hw : Region.wanted o (yielded ops a.tmps) = true := by simp [Region.wanted, hg]
  rw [if_pos hw]
  exact .inl (h K fun _ _ k => k)
theorem one_of {j : Nat} {p : Nat → Prop} (h : p j) : ∀ i ∈ [j], p i := by
  intro i hi
  simp only [List.mem_cons, List.not_mem_nil, or_false] at hi
  subst hi
  exact h
theorem two_of {j k : Nat} {p : Nat → Prop} (h : p j) (h2 : p k) : ∀ i ∈ [j, k], p i := by
  intro i hi
  simp only [List.mem_cons, List.not_mem_nil, or_false] at hi
  rcases hi with rfl | rfl
  · exact h
  · exact h2
end
end Go.Proofs.YtiebedcldbmlhaaGreatDoor
namespace Go.Proofs.YtiebedcldbmlhaaGreatDoor
open Go.Lib (indexByte)
set_option linter.unusedVariables false

/-- A letter or a digit. -/
def wordB (c : UInt8) : Bool := !((decide ((c ||| 32) < 97) || decide (122 < (c ||| 32))) && (decide (c < 48) || decide (57 < c)))
/-- A byte of a constant part. -/
def cb (c : UInt8) : Bool := c == 47 || wordB c
theorem wordB_ne {c : UInt8} (h : wordB c = true) (d : UInt8) (hd : wordB d = false) : c ≠ d := by rintro rfl; rw [h] at hd; cases hd
theorem cb_ne {c : UInt8} (h : cb c = true) (d : UInt8) (hd : cb d = false) : c ≠ d := by rintro rfl; rw [h] at hd; cases hd
theorem cb_word {c : UInt8} (h : wordB c = true) : cb c = true := by unfold cb; rw [h]; simp

theorem nextCS_app {cs : Bs} {c : UInt8} (hc : cs.contains c = true) : ∀ (a r : Bs), (∀ x ∈ a, cs.contains x = false) → nextCS (a ++ c :: r) cs = some a.length
  | [], r, _ => by unfold nextCS; rw [List.nil_append, List.findIdx?_cons, hc]; rfl
  | x :: a, r, h => by
    have := nextCS_app hc a r fun y hy => h y (List.mem_cons_of_mem _ hy)
    unfold nextCS at this ⊢
    rw [List.cons_append, List.findIdx?_cons, h x (List.mem_cons_self ..), this]
    rfl
theorem nextCS_no {cs : Bs} : ∀ (a : Bs), (∀ x ∈ a, cs.contains x = false) → nextCS a cs = none
  | [], _ => rfl
  | x :: a, h => by
    have := nextCS_no a fun y hy => h y (List.mem_cons_of_mem _ hy)
    unfold nextCS at this ⊢
    rw [List.findIdx?_cons, h x (List.mem_cons_self ..), this]
    rfl
theorem nneGo_ge {s cs : Bs} : ∀ {k p q : Nat}, nneGo s cs k p = some q → p ≤ q
  | 0, p, q, h => by simp only [nneGo, Option.some.injEq] at h; omega
  | k + 1, p, q, h => by
    unfold nneGo at h
    split at h
    · split at h
      · cases h
      · split at h
        · cases h
        · have := nneGo_ge h; omega
    · simp only [Option.some.injEq] at h; omega
theorem nne_no {cs a : Bs} (h : ∀ x ∈ a, cs.contains x = false) : nne a cs = none := by unfold nne; rw [nextCS_no a h]
theorem nne_app {cs : Bs} {c : UInt8} (hc : cs.contains c = true) (a r : Bs) (h : ∀ x ∈ a, cs.contains x = false) (hb : ∀ x ∈ a, x ≠ 92) : nne (a ++ c :: r) cs = some a.length := by
  unfold nne
  rw [nextCS_app hc a r h]
  show nneGo _ _ _ _ = _
  obtain ⟨k, hk⟩ : ∃ k, (a ++ c :: r).length = k + 1 := ⟨a.length + r.length, by simp; omega⟩
  rw [hk]
  unfold nneGo
  rw [if_neg]
  rintro ⟨h0, h1⟩
  rw [List.getElem?_append_left (by omega)] at h1
  exact hb _ (List.mem_of_getElem? h1) rfl
theorem nne_head {cs : Bs} {x : UInt8} {r : Bs} (h : cs.contains x = false) : nne (x :: r) cs ≠ some 0 := by
  unfold nne
  intro hn
  split at hn
  · cases hn
  · rename_i p hp
    have := nneGo_ge hn
    obtain rfl : p = 0 := by omega
    unfold nextCS at hp
    rw [List.findIdx?_cons, h] at hp
    simp at hp
theorem nne_nil_ne (cs : Bs) : nne [] cs ≠ some 0 := by unfold nne nextCS; simp
theorem unesc_id {a : Bs} (h : ∀ x ∈ a, x ≠ 92) : unesc a = a := by
  unfold unesc
  rw [List.filter_eq_self]
  intro x hx
  simpa using h x hx

/-- A constant part and a parameter, as the parser makes them first. -/
def cseg (c : Bs) : Seg := { const := c, isParam := false, name := [], cmp := [], partCount := 0, greedy := false, optional := false, last := false, optSlash := false, cons := [], length := c.length }
def pseg (n : Bs) : Seg := { const := [], isParam := true, name := n, cmp := [], partCount := 0, greedy := false, optional := false, last := false, optSlash := false, cons := [], length := 0 }

theorem starts_cb {x : UInt8} (h : cb x = true) : starts.contains x = false := by
  have h1 := cb_ne h 42 (by decide)
  have h2 := cb_ne h 43 (by decide)
  have h3 := cb_ne h 58 (by decide)
  simp [starts, h1, h2, h3]
theorem ends_word {x : UInt8} (h : wordB x = true) : ends.contains x = false := by
  have h1 := wordB_ne h 63 (by decide)
  have h2 := wordB_ne h 58 (by decide)
  have h3 := wordB_ne h 92 (by decide)
  have h4 := wordB_ne h 47 (by decide)
  have h5 := wordB_ne h 45 (by decide)
  have h6 := wordB_ne h 46 (by decide)
  simp [ends, h1, h2, h3, h4, h5, h6]

/-- Of a text that begins with a constant part and goes on with a parameter's sign. -/
theorem paramPos_const {c : Bs} (sg : UInt8) (hsg : starts.contains sg = true) (t : Bs) (ht : nne t starts ≠ some 0) (hc : ∀ x ∈ c, cb x = true) : paramPos (c ++ sg :: t) = some c.length := by
  unfold paramPos
  rw [nne_app hsg c t (fun x hx => starts_cb (hc x hx)) (fun x hx => cb_ne (hc x hx) 92 (by decide))]
  have : (c ++ sg :: t).drop (c.length + 1) = t := by rw [show c ++ sg :: t = (c ++ [sg]) ++ t by simp, List.drop_left' (by simp)]
  simp only [this, ht, and_false, if_false]
theorem paramPos_none {c : Bs} (hc : ∀ x ∈ c, cb x = true) : paramPos c = none := by
  unfold paramPos
  rw [nne_no fun x hx => starts_cb (hc x hx)]
theorem constPart_some {c t : Bs} (hc : ∀ x ∈ c, cb x = true) : constPart (c ++ t) (some c.length) = (c, cseg c) := by
  have : (c ++ t).take c.length = c := by simp
  unfold constPart cseg
  simp only [this, unesc_id fun x hx => cb_ne (hc x hx) 92 (by decide)]
theorem constPart_none {c : Bs} (hc : ∀ x ∈ c, cb x = true) : constPart c none = (c, cseg c) := by
  unfold constPart cseg
  simp only [unesc_id fun x hx => cb_ne (hc x hx) 92 (by decide)]

theorem go_const {k : Nat} {c t : Bs} {sg : UInt8} {st pl : Nat} {S : List Seg} {N : List Bs} (h0 : c ≠ []) (hsg : starts.contains sg = true) (ht : nne t starts ≠ some 0) (hc : ∀ x ∈ c, cb x = true) :
    parseGo (k + 1) (c ++ sg :: t) st pl S N = parseGo k (sg :: t) st pl (S ++ [cseg c]) N := by
  conv => lhs; unfold parseGo
  rw [if_neg (by simp), paramPos_const sg hsg t ht hc]
  have hl : c.length ≠ 0 := by simpa using h0
  obtain ⟨n, hn⟩ : ∃ n, c.length = n + 1 := ⟨c.length - 1, by omega⟩
  have h1 := constPart_some (t := sg :: t) hc
  rw [hn] at h1 ⊢
  simp only [h1]
  have : (c ++ sg :: t).drop c.length = sg :: t := by simp
  rw [this]
theorem go_fin {k : Nat} {c : Bs} {st pl : Nat} {S : List Seg} {N : List Bs} (h0 : c ≠ []) (hc : ∀ x ∈ c, cb x = true) :
    parseGo (k + 1) c st pl S N = some (S ++ [cseg c], N) := by
  conv => lhs; unfold parseGo
  rw [if_neg h0, paramPos_none hc]
  simp only [constPart_none hc, List.drop_length]
  cases k with
  | zero => rfl
  | succ k => unfold parseGo; rw [if_pos rfl]

/-- A parameter of a name of letters and digits. -/
theorem part_word {n r : Bs} {st pl : Nat} (hn0 : n ≠ []) (hn : ∀ x ∈ n, wordB x = true) (hr : r = [] ∨ ∃ t, r = 47 :: t) (h60 : ∀ x ∈ r, x ≠ 60) :
    paramPart (58 :: (n ++ r)) st pl = some (58 :: n, pseg n, st, pl) := by
  have hc60 : (58 :: (n ++ r)).contains 60 = false := by
    rw [List.contains_eq_any_beq, List.any_eq_false]
    intro x hx
    have : x ≠ 60 := by
      rcases List.mem_cons.1 hx with rfl | hx
      · decide
      · rcases List.mem_append.1 hx with hx | hx
        · exact wordB_ne (hn x hx) 60 (by decide)
        · exact h60 x hx
    simpa using fun h => this h.symm
  have hL : n.length ≠ 0 := by simpa using hn0
  have hpe : paramEnd (58 :: (n ++ r)) = n.length := by
    unfold paramEnd
    rw [if_neg (by simp), hc60]
    simp only [Bool.false_and, if_false, List.drop_succ_cons, List.drop_zero, Bool.false_eq_true]
    rcases hr with rfl | ⟨t, rfl⟩
    · rw [List.append_nil, nne_no fun x hx => ends_word (hn x hx)]
      simp [oi]
    · rw [nne_app (by decide) n t (fun x hx => ends_word (hn x hx)) (fun x hx => wordB_ne (hn x hx) 92 (by decide))]
      have hg : (58 :: (n ++ 47 :: t)).getD (n.length + 1) 0 = 47 := by
        rw [List.getD_cons_succ]
        simp [List.getD]
      show (if (n.length : Int) = -1 then (58 :: (n ++ 47 :: t)).length - 1 else if delims.contains ((58 :: (n ++ 47 :: t)).getD ((n.length : Int).toNat + 1) 0) then (n.length : Int).toNat else (n.length : Int).toNat + 1) = n.length
      rw [Int.toNat_natCast, if_neg (by omega), hg, if_pos (by decide)]
  have htk : (58 :: (n ++ r)).take (n.length + 1) = 58 :: n := by simp
  have hst : nne ((58 :: (n ++ r)).take n.length) [60] = none := by
    refine nne_no fun x hx => ?_
    have h := List.mem_of_mem_take hx
    have : (58 :: (n ++ r)).contains x = true := by simpa using h
    cases h6 : ([60] : Bs).contains x with
    | false => rfl
    | true =>
      have : x = 60 := by simpa using h6
      subst this
      rw [hc60] at this
      cases this
  have htr : trimmed (58 :: n) = n := by
    show (if (58 : UInt8) = 58 then (if (58 :: n).getLast? = some 63 then n.dropLast else n) else 58 :: n) = n
    rw [if_pos rfl, if_neg]
    intro h
    have hm : (63 : UInt8) ∈ 58 :: n := List.mem_of_getLast? h
    rcases List.mem_cons.1 hm with h | h
    · cases h
    · exact wordB_ne (hn _ h) 63 (by decide) rfl
  have hopt : ¬ (58 :: (n ++ r))[n.length]? = some 63 := by
    intro h
    obtain ⟨m, hm⟩ : ∃ m, n.length = m + 1 := ⟨n.length - 1, by omega⟩
    rw [hm, List.getElem?_cons_succ, List.getElem?_append_left (by omega)] at h
    exact wordB_ne (hn _ (List.mem_of_getElem? h)) 63 (by decide) rfl
  unfold paramPart
  simp only [hpe, htk, if_pos (Nat.pos_of_ne_zero hL), hst, htr, unesc_id fun x hx => wordB_ne (hn x hx) 92 (by decide)]
  simp [pseg, hopt]

theorem go_param {k : Nat} {n r : Bs} {st pl : Nat} {S : List Seg} {N : List Bs} (hn0 : n ≠ []) (hn : ∀ x ∈ n, wordB x = true) (hr : r = [] ∨ ∃ t, r = 47 :: t) (h60 : ∀ x ∈ r, x ≠ 60) :
    parseGo (k + 1) (58 :: (n ++ r)) st pl S N = parseGo k r st pl (S ++ [pseg n]) (N ++ [n]) := by
  conv => lhs; unfold parseGo
  have hh : nne (n ++ r) starts ≠ some 0 := by
    cases n with
    | nil => exact absurd rfl hn0
    | cons x n => exact nne_head (starts_cb (cb_word (hn x (List.mem_cons_self ..))))
  have hp := paramPos_const (c := []) 58 (by decide) (n ++ r) hh (by simp)
  rw [List.nil_append] at hp
  rw [if_neg (by simp), hp]
  simp only [List.length_nil, part_word hn0 hn hr h60]
  have : (58 :: (n ++ r)).drop (58 :: n).length = r := by simp
  rw [this]
  rfl

/-- A pattern: constant parts, each with the parameter behind it (name and value), and a constant part at the end. -/
abbrev Its := List (Bs × Bs × Bs)
def render : Its → Bs → Bs
  | [], fin => fin
  | (c, n, _) :: l, fin => c ++ 58 :: (n ++ render l fin)
def fill : Its → Bs → Bs
  | [], fin => fin
  | (c, _, v) :: l, fin => c ++ (v ++ fill l fin)
def namesOf (l : Its) : List Bs := l.map fun x => x.2.1
def valsOf (l : Its) : List Bs := l.map fun x => x.2.2
def segs0 : Its → Bs → List Seg
  | [], fin => if fin = [] then [] else [cseg fin]
  | (c, n, _) :: l, fin => cseg c :: pseg n :: segs0 l fin
/-- A constant part ahead of a parameter; at the end. -/
def MidOk (c : Bs) : Prop := (∀ x ∈ c, cb x = true) ∧ (∃ a, c = a ++ [47]) ∧ (c = [47] ∨ ∃ w t, c = 47 :: w :: t ∧ w ≠ 47)
def FinOk (c : Bs) : Prop := c = [] ∨ ((∀ x ∈ c, cb x = true) ∧ (∃ x, c.getLast? = some x ∧ x ≠ 47) ∧ ∃ w t, c = 47 :: w :: t ∧ w ≠ 47)
def WordOk (n : Bs) : Prop := n ≠ [] ∧ ∀ x ∈ n, wordB x = true
def ItsOk (l : Its) (fin : Bs) : Prop := (∀ x ∈ l, MidOk x.1 ∧ WordOk x.2.1 ∧ x.2.2 ≠ [] ∧ ∀ y ∈ x.2.2, y ≠ 47) ∧ FinOk fin

theorem mid_head {c : Bs} (h : MidOk c) : ∃ t, c = 47 :: t := by
  rcases h.2.2 with rfl | ⟨w, t, rfl, _⟩
  · exact ⟨[], rfl⟩
  · exact ⟨_, rfl⟩
theorem render_head {l : Its} {fin : Bs} (h : ItsOk l fin) : render l fin = [] ∨ ∃ t, render l fin = 47 :: t := by
  cases l with
  | nil =>
    rcases h.2 with rfl | ⟨_, _, w, t, rfl, _⟩
    · exact .inl rfl
    · exact .inr ⟨_, rfl⟩
  | cons x l =>
    obtain ⟨c, n, v⟩ := x
    obtain ⟨t, ht⟩ := mid_head (h.1 _ (List.mem_cons_self ..)).1
    exact .inr ⟨_, by show c ++ _ = _; rw [show c = 47 :: t from ht]; rfl⟩
theorem ItsOk.tail {x : Bs × Bs × Bs} {l : Its} {fin : Bs} (h : ItsOk (x :: l) fin) : ItsOk l fin := ⟨fun y hy => h.1 y (List.mem_cons_of_mem _ hy), h.2⟩
/-- What stands in a pattern of words. -/
theorem render_bytes {l : Its} {fin : Bs} (h : ItsOk l fin) : ∀ x ∈ render l fin, cb x = true ∨ x = 58 := by
  induction l with
  | nil =>
    intro x hx
    rcases h.2 with rfl | ⟨h1, _⟩
    · simp [render] at hx
    · exact .inl (h1 x hx)
  | cons y l ih =>
    obtain ⟨c, n, v⟩ := y
    intro x hx
    have hy := h.1 _ (List.mem_cons_self ..)
    rcases List.mem_append.1 (show x ∈ c ++ 58 :: (n ++ render l fin) from hx) with hx | hx
    · exact .inl (hy.1.1 x hx)
    · rcases List.mem_cons.1 hx with rfl | hx
      · exact .inr rfl
      · rcases List.mem_append.1 hx with hx | hx
        · exact .inl (cb_word (hy.2.1.2 x hx))
        · exact ih h.tail x hx
theorem render_ne {l : Its} {fin : Bs} (h : ItsOk l fin) (d : UInt8) (hd : cb d = false) (hd2 : d ≠ 58) : ∀ x ∈ render l fin, x ≠ d := by
  intro x hx
  rcases render_bytes h x hx with h1 | rfl
  · exact cb_ne h1 d hd
  · exact fun e => hd2 e.symm

theorem go_its : ∀ (l : Its) (fin : Bs) (k : Nat) (S : List Seg) (N : List Bs), ItsOk l fin → (render l fin).length ≤ k → parseGo k (render l fin) 0 0 S N = some (S ++ segs0 l fin, N ++ namesOf l)
  | [], fin, k, S, N, h, hk => by
    rcases h.2 with rfl | ⟨h1, _, w, t, hw, _⟩
    · cases k with
      | zero => simp [segs0, namesOf, parseGo]
      | succ k => simp [render, segs0, namesOf, parseGo]
    · have h0 : fin ≠ [] := by rw [hw]; simp
      obtain ⟨j, rfl⟩ : ∃ j, k = j + 1 := ⟨k - 1, by have : 0 < fin.length := List.length_pos_iff.2 h0; have : fin.length ≤ k := hk; omega⟩
      show parseGo (j + 1) fin 0 0 S N = _
      rw [go_fin h0 h1]
      simp [segs0, namesOf, h0]
  | (c, n, v) :: l, fin, k, S, N, h, hk => by
    have hx := h.1 _ (List.mem_cons_self ..)
    obtain ⟨t, ht⟩ := mid_head hx.1
    have h0 : c ≠ [] := by rw [show c = 47 :: t from ht]; simp
    have hlen : (c ++ 58 :: (n ++ render l fin)).length ≤ k := hk
    have hcl : 0 < c.length := List.length_pos_iff.2 h0
    simp only [List.length_append, List.length_cons] at hlen
    obtain ⟨j, rfl⟩ : ∃ j, k = j + 1 + 1 := ⟨k - 2, by omega⟩
    have hh : nne (n ++ render l fin) starts ≠ some 0 := by
      obtain ⟨hn0, hn⟩ := hx.2.1
      cases n with
      | nil => exact absurd rfl hn0
      | cons x n => exact nne_head (starts_cb (cb_word (hn x (List.mem_cons_self ..))))
    show parseGo (j + 1 + 1) (c ++ 58 :: (n ++ render l fin)) 0 0 S N = _
    rw [go_const h0 (by decide) hh hx.1.1, go_param hx.2.1.1 hx.2.1.2 (render_head h.tail) (render_ne h.tail 60 (by decide) (by decide)), go_its l fin j _ _ h.tail (by omega)]
    simp [segs0, namesOf]

/-- What the parts are in the end: but for the counts, which nothing reads here. -/
def cmpOf (c : Bs) : Bs := if 1 < c.length then trimRight c 47 else c
def firstC : Its → Bs → Bs
  | [], fin => fin
  | (c, _, _) :: _, _ => c
def Sh : Its → Bs → List Seg → Prop
  | [], fin, L => (fin = [] ∧ L = []) ∨ (fin ≠ [] ∧ L = [{ cseg fin with last := true }])
  | (c, n, _) :: l, fin, L => ∃ pc la R, L = cseg c :: { pseg n with cmp := unesc (cmpOf (firstC l fin)), partCount := pc, last := la } :: R ∧ (la = true ↔ l = [] ∧ fin = []) ∧ Sh l fin R

/-- The last one marked, in a list. -/
def markL : List Seg → List Seg
  | [] => []
  | [x] => [{ x with last := true }]
  | x :: y :: r => x :: markL (y :: r)
theorem markLast_snoc (l : List Seg) (x : Seg) : markLast (l ++ [x]) = l ++ [{ x with last := true }] := by
  unfold markLast
  rw [List.reverse_append]
  simp
theorem markL_snoc : ∀ (l : List Seg) (x : Seg), markL (l ++ [x]) = l ++ [{ x with last := true }]
  | [], x => rfl
  | [y], x => rfl
  | y :: z :: l, x => by
    show markL (y :: z :: (l ++ [x])) = _
    unfold markL
    have := markL_snoc (z :: l) x
    rw [List.cons_append] at this
    rw [this]
    rfl
theorem markLast_eq (l : List Seg) : markLast l = markL l := by
  rcases List.eq_nil_or_concat l with rfl | ⟨l, x, rfl⟩
  · rfl
  · rw [List.concat_eq_append, markLast_snoc, markL_snoc]
theorem markL_cons (x : Seg) {l : List Seg} (h : l ≠ []) : markL (x :: l) = x :: markL l := by
  cases l with
  | nil => exact absurd rfl h
  | cons y l => rfl
theorem cmpBack_p {x : Seg} {r : List Seg} (h : x.isParam = true) : cmpBack (x :: r) = ({ x with cmp := unesc (cmpBack r).2 } :: (cmpBack r).1, (cmpBack r).2) := by
  simp [cmpBack, h]
theorem cmpBack_c {x : Seg} {r : List Seg} (h : x.isParam = false) : cmpBack (x :: r) = (x :: (cmpBack r).1, if 1 < x.const.length then trimRight x.const 47 else x.const) := by
  simp [cmpBack, h]
theorem metaFwd_p {x : Seg} {r T : List Seg} (h : metaFwd r = some T) (hp : x.isParam = true) (hn : r.head?.map (·.isParam) ≠ some true) :
    ∃ pc, metaFwd (x :: r) = some ({ x with partCount := pc } :: T) := by
  refine ⟨if x.cmp = [] then x.partCount else r.foldl (fun n z => if z.isParam then n else n + countS z.const x.cmp) x.partCount, ?_⟩
  unfold metaFwd
  simp only [hp, if_true, h]
  cases r with
  | nil => rfl
  | cons z r =>
    have hz : z.isParam = false := by
      cases h : z.isParam with
      | false => rfl
      | true => exact absurd (by simp [h]) hn
    simp [hz]
theorem metaFwd_c {x : Seg} {r T : List Seg} {c : UInt8} (h : metaFwd r = some T) (hp : x.isParam = false) (hl : x.const.getLast? = some c) (hno : c ≠ 47 ∨ (x.last = false ∧ r.head?.map (·.optional) ≠ some true)) :
    metaFwd (x :: r) = some (x :: T) := by
  unfold metaFwd
  simp only [hp, Bool.false_eq_true, if_false, hl]
  rw [if_neg]
  · simp only [h]
  · rintro ⟨h1, h2⟩
    rcases hno with h3 | ⟨h3, h4⟩
    · exact h3 h1
    · rcases h2 with h2 | h2
      · rw [h3] at h2; cases h2
      · exact h4 h2

theorem cmpBack_segs (l : Its) (fin : Bs) (h : ItsOk l fin) : (cmpBack (markL (segs0 l fin))).2 = cmpOf (firstC l fin) := by
  cases l with
  | nil =>
    rcases h.2 with rfl | ⟨_, _, w, t, hw, _⟩
    · rfl
    · have h0 : fin ≠ [] := by rw [hw]; simp
      show (cmpBack (markL (if fin = [] then [] else [cseg fin]))).2 = _
      rw [if_neg h0]
      rfl
  | cons x l =>
    obtain ⟨c, n, v⟩ := x
    show (cmpBack (markL (cseg c :: pseg n :: segs0 l fin))).2 = _
    rw [markL_cons _ (by simp), cmpBack_c rfl]
    rfl
theorem sh_segs : ∀ (l : Its) (fin : Bs), ItsOk l fin → ∃ T, metaFwd (cmpBack (markL (segs0 l fin))).1 = some T ∧ Sh l fin T ∧ T.head?.map (·.isParam) ≠ some true
  | [], fin, h => by
    rcases h.2 with rfl | ⟨_, ⟨x, hx, hx2⟩, w, t, hw, _⟩
    · exact ⟨[], rfl, .inl ⟨rfl, rfl⟩, by simp⟩
    · have h0 : fin ≠ [] := by rw [hw]; simp
      refine ⟨[{ cseg fin with last := true }], ?_, .inr ⟨h0, rfl⟩, by simp [cseg]⟩
      show metaFwd (cmpBack (markL (if fin = [] then [] else [cseg fin]))).1 = _
      rw [if_neg h0]
      show metaFwd (cmpBack [{ cseg fin with last := true }]).1 = _
      rw [cmpBack_c rfl]
      exact metaFwd_c (T := []) rfl rfl hx (.inl hx2)
  | (c, n, v) :: l, fin, h => by
    obtain ⟨T, hT, hS, hH⟩ := sh_segs l fin h.tail
    have hx := h.1 _ (List.mem_cons_self ..)
    have hC := cmpBack_segs l fin h.tail
    obtain ⟨a, ha⟩ := hx.1.2.1
    have hlast : (cseg c).const.getLast? = some 47 := by show c.getLast? = _; rw [show c = a ++ [47] from ha]; simp
    show ∃ T, metaFwd (cmpBack (markL (cseg c :: pseg n :: segs0 l fin))).1 = some T ∧ _
    rw [markL_cons _ (by simp), cmpBack_c rfl]
    by_cases he : segs0 l fin = []
    · have hl : l = [] ∧ fin = [] := by
        cases l with
        | nil =>
          refine ⟨rfl, ?_⟩
          by_cases h0 : fin = []
          · exact h0
          · have : (if fin = [] then [] else [cseg fin]) = ([] : List Seg) := he
            rw [if_neg h0] at this
            cases this
        | cons x l => cases he
      obtain ⟨rfl, rfl⟩ := hl
      have hm : markL (pseg n :: segs0 [] []) = [{ pseg n with last := true }] := rfl
      rw [hm, cmpBack_p rfl]
      obtain ⟨pc, hp⟩ := metaFwd_p (x := { pseg n with last := true, cmp := unesc (cmpBack []).2 }) (r := []) (T := []) rfl rfl (by simp)
      refine ⟨_, metaFwd_c hp rfl hlast (.inr ⟨rfl, by simp [pseg]⟩), ⟨pc, true, [], ?_, by simp, .inl ⟨rfl, rfl⟩⟩, by simp [cseg]⟩
      rfl
    · have hm : markL (pseg n :: segs0 l fin) = pseg n :: markL (segs0 l fin) := markL_cons _ he
      rw [hm, cmpBack_p rfl, hC]
      have hcb : (cmpBack (markL (segs0 l fin))).1.head?.map (·.isParam) ≠ some true := by
        cases l with
        | nil =>
          have h0 : fin ≠ [] := by rintro rfl; exact he rfl
          show ((cmpBack (markL (if fin = [] then [] else [cseg fin]))).1).head?.map _ ≠ _
          rw [if_neg h0]
          show ((cmpBack [{ cseg fin with last := true }]).1).head?.map _ ≠ _
          rw [cmpBack_c rfl]
          simp [cseg]
        | cons x l =>
          obtain ⟨c', n', v'⟩ := x
          show ((cmpBack (markL (cseg c' :: pseg n' :: segs0 l fin))).1).head?.map _ ≠ _
          rw [markL_cons _ (by simp), cmpBack_c rfl]
          simp [cseg]
      obtain ⟨pc, hp⟩ := metaFwd_p (x := { pseg n with cmp := unesc (cmpOf (firstC l fin)) }) hT rfl hcb
      refine ⟨_, metaFwd_c hp rfl hlast (.inr ⟨rfl, by simp [pseg]⟩), ⟨pc, false, T, rfl, ?_, hS⟩, by simp [cseg]⟩
      constructor
      · intro h; cases h
      · rintro ⟨rfl, rfl⟩; exact absurd rfl he

theorem parse_its (l : Its) (fin : Bs) (h : ItsOk l fin) (hl : l.length ≤ 30) : ∃ T, parse (render l fin) = some (T, namesOf l) ∧ Sh l fin T := by
  obtain ⟨T, hT, hS, _⟩ := sh_segs l fin h
  refine ⟨T, ?_, hS⟩
  unfold parse
  rw [go_its l fin _ [] [] h (Nat.le_refl _)]
  simp only [List.nil_append]
  rw [markLast_eq, hT]
  simp only
  rw [if_neg (by simp [namesOf]; omega)]

theorem fb_app {v r : Bs} (h : ∀ y ∈ v, y ≠ 47) : fb (v ++ 47 :: r) 47 = some v.length := by
  induction v with
  | nil => unfold fb; rw [List.nil_append, List.findIdx?_cons]; rfl
  | cons y v ih =>
    have := ih fun z hz => h z (List.mem_cons_of_mem _ hz)
    have hy : (y == 47) = false := by simpa using h y (List.mem_cons_self ..)
    unfold fb at this ⊢
    rw [List.cons_append, List.findIdx?_cons, hy, this]
    rfl
theorem fb_no {v : Bs} {c : UInt8} (h : ∀ y ∈ v, y ≠ c) : fb v c = none := by
  unfold fb
  rw [List.findIdx?_eq_none_iff]
  intro y hy
  simpa using h y hy
theorem idxGo_app {t rest : Bs} (hp : (47 :: t) <+: rest) : ∀ (v : Bs) (k i : Nat), (∀ y ∈ v, y ≠ 47) → v.length < k → idxGo (47 :: t) k (v ++ rest) i = some (i + v.length)
  | v, 0, i, h, hk => by omega
  | [], k + 1, i, h, hk => by
    unfold idxGo
    have := hp.length_le
    rw [List.nil_append, if_neg (by omega), if_pos (List.isPrefixOf_iff_prefix.2 hp)]
    rfl
  | y :: v, k + 1, i, h, hk => by
    have hl := hp.length_le
    have hy : y ≠ 47 := h y (List.mem_cons_self ..)
    conv => lhs; unfold idxGo
    rw [if_neg (by simp only [List.length_append, List.length_cons] at hl ⊢; omega), if_neg, List.cons_append, List.drop_succ_cons, List.drop_zero, idxGo_app hp v k (i + 1) (fun z hz => h z (List.mem_cons_of_mem _ hz)) (by simp at hk; omega)]
    · simp only [List.length_cons]; congr 1; omega
    · rw [List.isPrefixOf_iff_prefix]
      rintro ⟨s, hs⟩
      simp only [List.cons_append, List.cons.injEq] at hs
      exact hy hs.1.symm
theorem trim_pre (c : Bs) (d : UInt8) : trimRight c d <+: c := by
  unfold trimRight
  have h := List.dropWhile_suffix (fun x => x == d) (l := c.reverse)
  rw [← List.reverse_prefix, List.reverse_reverse] at h
  exact h
theorem trim_two {w : UInt8} (t : Bs) (h : w ≠ 47) : ∃ t', trimRight (47 :: w :: t) 47 = 47 :: w :: t' := by
  unfold trimRight
  have hr : (47 :: w :: t).reverse = t.reverse ++ [w, 47] := by simp
  have hd : List.dropWhile (fun x => x == 47) [w, 47] = [w, 47] := by rw [List.dropWhile_cons, if_neg (by simpa using h)]
  rw [hr, List.dropWhile_append, hd]
  split
  · exact ⟨[], rfl⟩
  · exact ⟨(List.dropWhile (fun x => x == 47) t.reverse).reverse, by simp⟩
/-- What a parameter compares with: a slash and what stands behind it in the next constant part. -/
theorem cmp_mid {c : Bs} (hc : ∀ x ∈ c, cb x = true) (h : c = [47] ∨ ∃ w t, c = 47 :: w :: t ∧ w ≠ 47) : ∃ t, unesc (cmpOf c) = 47 :: t ∧ (47 :: t) <+: c := by
  have hp : cmpOf c <+: c := by
    unfold cmpOf; split
    · exact trim_pre c 47
    · exact List.prefix_refl c
  have hu : unesc (cmpOf c) = cmpOf c := unesc_id fun x hx => cb_ne (hc x (hp.subset hx)) 92 (by decide)
  rw [hu]
  rcases h with rfl | ⟨w, t, rfl, hw⟩
  · exact ⟨[], rfl, List.prefix_refl _⟩
  · obtain ⟨t', ht'⟩ := trim_two t hw
    have he : cmpOf (47 :: w :: t) = 47 :: w :: t' := by unfold cmpOf; rw [if_pos (by simp), ht']
    rw [he] at hp
    exact ⟨w :: t', he, hp⟩

/-- How long a parameter's value is: up to the next constant part. -/
theorem plen_last {v : Bs} {x : Seg} (hl : x.last = true) (hg : x.greedy = false) (hv : ∀ y ∈ v, y ≠ 47) : paramLen v x = v.length := by
  unfold paramLen
  rw [if_pos hl, hg, fb_no hv]
  simp
theorem plen_mid {v rest t : Bs} {x : Seg} (hl : x.last = false) (hg : x.greedy = false) (hz : x.length = 0) (hc : x.cmp = 47 :: t) (hp : (47 :: t) <+: rest) (hv : ∀ y ∈ v, y ≠ 47) : paramLen (v ++ rest) x = v.length := by
  unfold paramLen
  rw [hl, hg, hz, hc]
  simp only [Bool.false_eq_true, if_false, ne_eq, not_true_eq_false, false_and, true_or, if_true, Bool.not_false]
  cases t with
  | nil =>
    obtain ⟨r, rfl⟩ := hp
    rw [show v ++ ([47] ++ r) = v ++ 47 :: r by simp]
    simp only [fb_app hv]
    rfl
  | cons a t =>
    have hi : idx (v ++ rest) (47 :: a :: t) = some v.length := by
      unfold idx
      rw [idxGo_app hp v _ 0 hv (by simp; omega), Nat.zero_add]
    simp only [hi]
    rw [if_neg]
    rintro ⟨_, h⟩
    rw [List.take_left'  rfl, List.contains_iff_mem] at h
    exact hv _ h rfl

theorem mg_const {chk : Con → Bs → Bool} {part : Bool} {x : Seg} {R : List Seg} {s : Bs} {vs : List Bs} (hp : x.isParam = false) (hl : x.length = x.const.length) :
    matchGo chk part (x :: R) (x.const ++ s) vs = matchGo chk part R s vs := by
  conv => lhs; unfold matchGo
  rw [hp, hl]
  simp only [Bool.not_false, if_true, Int.toNat_natCast]
  rw [if_neg (by rintro ⟨_, h, _⟩; rw [List.length_append] at h; omega), if_pos ⟨by rw [List.length_append]; omega, by simp⟩]
  simp
theorem mg_const_no {chk : Con → Bs → Bool} {part : Bool} {x : Seg} {R : List Seg} {s : Bs} {vs : List Bs} (hp : x.isParam = false) (ho : x.optSlash = false) (hl : x.length = x.const.length) (hn : ¬ x.const <+: s) :
    matchGo chk part (x :: R) s vs = none := by
  conv => lhs; unfold matchGo
  rw [hp, ho, hl]
  simp only [Bool.not_false, if_true, Bool.false_eq_true, false_and, if_false, Int.toNat_natCast]
  rw [if_neg]
  rintro ⟨_, h⟩
  exact hn (h ▸ List.take_prefix _ _)
theorem mg_param {chk : Con → Bs → Bool} {part : Bool} {x : Seg} {R : List Seg} {v s : Bs} {vs : List Bs} (hp : x.isParam = true) (hc : x.cons = []) (hl : paramLen (v ++ s) x = v.length) (hv : x.optional = true ∨ v ≠ []) :
    matchGo chk part (x :: R) (v ++ s) vs = matchGo chk part R s (vs ++ [v]) := by
  conv => lhs; unfold matchGo
  rw [hp, hc, hl]
  have h0 : ¬ ((!x.optional) = true ∧ v.length = 0) := by
    rintro ⟨h1, h2⟩
    rcases hv with h | h
    · rw [h] at h1; cases h1
    · exact h (List.length_eq_zero_iff.1 h2)
  simp only [Bool.not_true, Bool.false_eq_true, if_false, List.any_nil, and_false, h0]
  simp
theorem mg_nil {chk : Con → Bs → Bool} {part : Bool} (vs : List Bs) : matchGo chk part [] [] vs = some vs := by
  unfold matchGo; simp

theorem match_made (chk : Con → Bs → Bool) (part : Bool) : ∀ (l : Its) (fin : Bs) (L : List Seg) (vs : List Bs), ItsOk l fin → Sh l fin L → matchGo chk part L (fill l fin) vs = some (vs ++ valsOf l)
  | [], fin, L, vs, h, hS => by
    rcases hS with ⟨rfl, rfl⟩ | ⟨h0, rfl⟩
    · show matchGo _ _ [] [] _ = _
      rw [mg_nil]; simp [valsOf]
    · show matchGo _ _ _ fin _ = _
      have := mg_const (chk := chk) (part := part) (x := { cseg fin with last := true }) (R := []) (s := []) (vs := vs) rfl rfl
      have he : ({ cseg fin with last := true } : Seg).const ++ [] = fin := by simp [cseg]
      rw [he] at this
      rw [this, mg_nil]
      simp [valsOf]
  | (c, n, v) :: l, fin, L, vs, h, hS => by
    obtain ⟨pc, la, R, rfl, hla, hR⟩ := hS
    have hx := h.1 _ (List.mem_cons_self ..)
    show matchGo _ _ _ (c ++ (v ++ fill l fin)) _ = _
    have h1 := mg_const (chk := chk) (part := part) (x := cseg c) (R := { pseg n with cmp := unesc (cmpOf (firstC l fin)), partCount := pc, last := la } :: R) (s := v ++ fill l fin) (vs := vs) rfl rfl
    rw [show (cseg c).const = c from rfl] at h1
    rw [h1]
    have hpl : paramLen (v ++ fill l fin) { pseg n with cmp := unesc (cmpOf (firstC l fin)), partCount := pc, last := la } = v.length := by
      cases la with
      | true =>
        obtain ⟨rfl, rfl⟩ := hla.1 rfl
        show paramLen (v ++ []) _ = _
        rw [List.append_nil]
        exact plen_last rfl rfl hx.2.2.2
      | false =>
        have hne : ¬ (l = [] ∧ fin = []) := fun e => by have := hla.2 e; cases this
        have hf : (∀ x ∈ firstC l fin, cb x = true) ∧ (firstC l fin = [47] ∨ ∃ w t, firstC l fin = 47 :: w :: t ∧ w ≠ 47) ∧ firstC l fin <+: fill l fin := by
          cases l with
          | nil =>
            rcases h.2 with rfl | ⟨h1, _, h3⟩
            · exact absurd ⟨rfl, rfl⟩ hne
            · exact ⟨h1, .inr h3, List.prefix_refl _⟩
          | cons y l =>
            obtain ⟨c', n', v'⟩ := y
            have hy := (h.tail.1 _ (List.mem_cons_self ..)).1
            exact ⟨hy.1, hy.2.2, List.prefix_append _ _⟩
        obtain ⟨t, ht, hp⟩ := cmp_mid hf.1 hf.2.1
        exact plen_mid rfl rfl rfl ht (hp.trans hf.2.2) hx.2.2.2
    rw [mg_param rfl rfl hpl (.inr hx.2.2.1), match_made chk part l fin R _ h.tail hR]
    simp [valsOf]

/-- A pattern without parameters matches itself alone. -/
theorem match_const (chk : Con → Bs → Bool) (fin s : Bs) (L : List Seg) (h0 : fin ≠ []) (hS : Sh [] fin L) : matchGo chk false L s [] = if s = fin then some [] else none := by
  rcases hS with ⟨h, _⟩ | ⟨_, rfl⟩
  · exact absurd h h0
  · by_cases hp : fin <+: s
    · obtain ⟨t, rfl⟩ := hp
      have := mg_const (chk := chk) (part := false) (x := { cseg fin with last := true }) (R := []) (s := t) (vs := []) rfl rfl
      rw [show ({ cseg fin with last := true } : Seg).const = fin from rfl] at this
      rw [this]
      unfold matchGo
      by_cases ht : t = []
      · subst ht; simp
      · simp [ht]
    · rw [mg_const_no rfl rfl rfl hp, if_neg]
      rintro rfl
      exact hp (List.prefix_refl _)

theorem match_count {chk : Con → Bs → Bool} {part : Bool} : ∀ {L : List Seg} {s : Bs} {vs r : List Bs}, matchGo chk part L s vs = some r → r.length = vs.length + (L.filter (·.isParam)).length
  | [], s, vs, r, h => by
    unfold matchGo at h
    split at h
    · cases h
    · cases h; simp
  | x :: L, s, vs, r, h => by
    unfold matchGo at h
    cases hp : x.isParam with
    | false =>
      rw [hp] at h
      simp only [Bool.not_false, if_true] at h
      rw [List.filter_cons_of_neg (by simp [hp])]
      split at h
      · exact match_count h
      · split at h
        · exact match_count h
        · cases h
    | true =>
      rw [hp] at h
      simp only [Bool.not_true, Bool.false_eq_true, if_false] at h
      rw [List.filter_cons_of_pos hp]
      split at h
      · cases h
      · split at h
        · cases h
        · have := match_count h
          rw [List.length_append, List.length_singleton] at this
          rw [List.length_cons]
          have e : (List.filter Seg.isParam L).length = (List.filter (fun x => x.isParam) L).length := rfl
          omega
theorem sh_params : ∀ (l : Its) (fin : Bs) (L : List Seg), Sh l fin L → (L.filter (·.isParam)).map (·.name) = namesOf l
  | [], fin, L, h => by
    rcases h with ⟨_, rfl⟩ | ⟨_, rfl⟩
    · rfl
    · simp [cseg, namesOf]
  | (c, n, v) :: l, fin, L, h => by
    obtain ⟨pc, la, R, rfl, _, hR⟩ := h
    have := sh_params l fin R hR
    simp [cseg, pseg, namesOf] at this ⊢
    exact this

/-- What a law's parts are: words, and whether a value stands in a part's place. -/
abbrev Pts := List (Bs × Option Bs)
def patOf : Pts → Bs
  | [] => []
  | (p, none) :: l => 47 :: (p ++ patOf l)
  | (p, some _) :: l => 47 :: 58 :: (p ++ patOf l)
def pathOf : Pts → Bs
  | [] => []
  | (p, none) :: l => 47 :: (p ++ pathOf l)
  | (_, some v) :: l => 47 :: (v ++ pathOf l)
def wantOf : Pts → List Bs
  | [] => []
  | (_, none) :: l => wantOf l
  | (_, some v) :: l => v :: wantOf l
def wnames : Pts → List Bs
  | [] => []
  | (_, none) :: l => wnames l
  | (p, some _) :: l => p :: wnames l
def normOf : Bs → Pts → Its × Bs
  | acc, [] => ([], acc)
  | acc, (p, none) :: l => normOf (acc ++ 47 :: p) l
  | acc, (p, some v) :: l => ((acc ++ [47], p, v) :: (normOf [] l).1, (normOf [] l).2)
def PtsOk (l : Pts) : Prop := ∀ x ∈ l, WordOk x.1 ∧ ∀ v, x.2 = some v → v ≠ [] ∧ ∀ y ∈ v, y ≠ 47
theorem norm_render : ∀ (l : Pts) (acc : Bs), render (normOf acc l).1 (normOf acc l).2 = acc ++ patOf l
  | [], acc => by simp [normOf, render, patOf]
  | (p, none) :: l, acc => by simp only [normOf, norm_render l, patOf]; simp
  | (p, some v) :: l, acc => by simp only [normOf, render, norm_render l, patOf]; simp
theorem norm_fill : ∀ (l : Pts) (acc : Bs), fill (normOf acc l).1 (normOf acc l).2 = acc ++ pathOf l
  | [], acc => by simp [normOf, fill, pathOf]
  | (p, none) :: l, acc => by simp only [normOf, norm_fill l, pathOf]; simp
  | (p, some v) :: l, acc => by simp only [normOf, fill, norm_fill l, pathOf]; simp
theorem norm_vals : ∀ (l : Pts) (acc : Bs), valsOf (normOf acc l).1 = wantOf l
  | [], acc => rfl
  | (p, none) :: l, acc => by simp only [normOf, norm_vals l, wantOf]
  | (p, some v) :: l, acc => by
    have := norm_vals l []
    simp only [normOf, wantOf, valsOf, List.map_cons] at this ⊢
    rw [this]
theorem norm_names : ∀ (l : Pts) (acc : Bs), namesOf (normOf acc l).1 = wnames l
  | [], acc => rfl
  | (p, none) :: l, acc => by simp only [normOf, norm_names l, wnames]
  | (p, some v) :: l, acc => by
    have := norm_names l []
    simp only [normOf, wnames, namesOf, List.map_cons] at this ⊢
    rw [this]
theorem norm_len : ∀ (l : Pts) (acc : Bs), (normOf acc l).1.length ≤ l.length
  | [], acc => by simp [normOf]
  | (p, none) :: l, acc => by have := norm_len l (acc ++ 47 :: p); simp only [normOf, List.length_cons]; omega
  | (p, some v) :: l, acc => by have := norm_len l []; simp only [normOf, List.length_cons]; omega
theorem fin_snoc {acc p : Bs} (ha : FinOk acc) (hp : WordOk p) : FinOk (acc ++ 47 :: p) := by
  have hne : ∀ x ∈ p, x ≠ 47 := fun x hx => wordB_ne (hp.2 x hx) 47 (by decide)
  have hall : ∀ x ∈ (47 :: p), cb x = true := by
    intro x hx
    rcases List.mem_cons.1 hx with rfl | hx
    · rfl
    · exact cb_word (hp.2 x hx)
  obtain ⟨w, q, hw⟩ : ∃ w q, p = w :: q := by
    cases p with
    | nil => exact absurd rfl hp.1
    | cons w q => exact ⟨w, q, rfl⟩
  have hlast : ∃ x, (47 :: p).getLast? = some x ∧ x ≠ 47 := by
    refine ⟨p.getLast hp.1, ?_, hne _ (List.getLast_mem hp.1)⟩
    rw [List.getLast?_cons, List.getLast?_eq_some_getLast hp.1]
    rfl
  right
  rcases ha with rfl | ⟨h1, h2, w', t, rfl, hw'⟩
  · exact ⟨hall, hlast, w, q, by rw [hw]; rfl, hne w (by rw [hw]; exact List.mem_cons_self ..)⟩
  · refine ⟨fun x hx => ?_, ?_, w', t ++ 47 :: p, by simp, hw'⟩
    · rcases List.mem_append.1 hx with hx | hx
      · exact h1 x hx
      · exact hall x hx
    · obtain ⟨x, hx, hx2⟩ := hlast
      exact ⟨x, by rw [List.getLast?_append, hx]; rfl, hx2⟩
theorem mid_snoc {acc : Bs} (ha : FinOk acc) : MidOk (acc ++ [47]) := by
  rcases ha with rfl | ⟨h1, h2, w', t, rfl, hw'⟩
  · exact ⟨by simp [cb], ⟨[], rfl⟩, .inl rfl⟩
  · refine ⟨fun x hx => ?_, ⟨_, rfl⟩, .inr ⟨w', t ++ [47], by simp, hw'⟩⟩
    rcases List.mem_append.1 hx with hx | hx
    · exact h1 x hx
    · obtain rfl : x = 47 := by simpa using hx
      rfl
theorem norm_ok : ∀ (l : Pts) (acc : Bs), PtsOk l → FinOk acc → ItsOk (normOf acc l).1 (normOf acc l).2
  | [], acc, h, ha => ⟨by simp [normOf], ha⟩
  | (p, none) :: l, acc, h, ha => norm_ok l _ (fun x hx => h x (List.mem_cons_of_mem _ hx)) (fin_snoc ha (h _ (List.mem_cons_self ..)).1)
  | (p, some v) :: l, acc, h, ha => by
    have hp := h _ (List.mem_cons_self ..)
    have ih := norm_ok l [] (fun x hx => h x (List.mem_cons_of_mem _ hx)) (.inl rfl)
    refine ⟨fun x hx => ?_, ih.2⟩
    rcases List.mem_cons.1 hx with rfl | hx
    · exact ⟨mid_snoc ha, hp.1, hp.2 v rfl⟩
    · exact ih.1 x hx

/-- A pattern of parts. -/
theorem parse_pts (l : Pts) (h : PtsOk l) (hl : l.length ≤ 30) : ∃ T, parse (patOf l) = some (T, wnames l) ∧ Sh (normOf [] l).1 (normOf [] l).2 T := by
  have h1 := norm_len l []
  obtain ⟨T, hT, hS⟩ := parse_its (normOf [] l).1 (normOf [] l).2 (norm_ok l [] h (.inl rfl)) (by omega)
  rw [norm_render, norm_names, List.nil_append] at hT
  exact ⟨T, hT, hS⟩
theorem made_pts (chk : Con → Bs → Bool) (part : Bool) (l : Pts) (h : PtsOk l) (T : List Seg) (hS : Sh (normOf [] l).1 (normOf [] l).2 T) : matchGo chk part T (pathOf l) [] = some (wantOf l) := by
  have := match_made chk part _ _ T [] (norm_ok l [] h (.inl rfl)) hS
  rw [norm_fill, norm_vals, List.nil_append, List.nil_append] at this
  exact this
theorem pts_const : ∀ (l : Pts), (∀ x ∈ l, x.2 = none) → ∀ acc, normOf acc l = ([], acc ++ patOf l)
  | [], _, acc => by simp [normOf, patOf]
  | (p, none) :: l, h, acc => by
    simp only [normOf, patOf]
    rw [pts_const l (fun x hx => h x (List.mem_cons_of_mem _ hx))]
    simp
  | (p, some v) :: l, h, acc => by have := h _ (List.mem_cons_self ..); cases this
theorem other_pts (chk : Con → Bs → Bool) (l : Pts) (h0 : l ≠ []) (hc : ∀ x ∈ l, x.2 = none) (T : List Seg) (s : Bs) (hS : Sh (normOf [] l).1 (normOf [] l).2 T) :
    matchGo chk false T s [] = if s = patOf l then some [] else none := by
  rw [pts_const l hc, List.nil_append] at hS
  refine match_const chk _ s T ?_ hS
  cases l with
  | nil => exact absurd rfl h0
  | cons x l =>
    obtain ⟨p, o⟩ := x
    cases o <;> simp [patOf]
theorem pat_bytes (l : Pts) (h : PtsOk l) : ∀ x ∈ patOf l, x ≠ 60 ∧ x ≠ 62 := by
  intro x hx
  have ho := norm_ok l [] h (.inl rfl)
  have hr : x ∈ render (normOf [] l).1 (normOf [] l).2 := by rw [norm_render, List.nil_append]; exact hx
  exact ⟨render_ne ho 60 (by decide) (by decide) x hr, render_ne ho 62 (by decide) (by decide) x hr⟩
end Go.Proofs.YtiebedcldbmlhaaGreatDoor
