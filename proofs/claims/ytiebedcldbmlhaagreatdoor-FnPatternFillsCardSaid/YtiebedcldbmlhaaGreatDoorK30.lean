/-
  Joined: analyseParameterPart, of a text that bears one constraint; parseRoute, of a constant part and one parameter with one constraint; What a panic leaves; addParameterMetaInfo's plain law where it may panic.
  Conditions: each law's own.
-/
import Derived.Test.YtiebedcldbmlhaaGreatDoorK26
import Derived.Test.YtiebedcldbmlhaaGreatDoorK22
import Derived.Laws.PanicsMore
import Derived.WalkLawsBesides
namespace Go.Proofs.YtiebedcldbmlhaaGreatDoor
open Go.RowKit
set_option linter.unusedVariables false

theorem lbGo_lt {s : Bs} {c : UInt8} : ∀ {k n : Nat}, lbGo s c k = some n → n < k
  | 0, n, h => by cases h
  | k + 1, n, h => by
    unfold lbGo at h
    split at h
    · cases h; omega
    · have := lbGo_lt h; omega
theorem lb_lt {s : Bs} {c : UInt8} {n : Nat} (h : lb s c = some n) : n < s.length := lbGo_lt h
theorem info84 : (Tryz.prog.info? 84).map (fun i => (i.zero, i.size, i.bytes)) = some (some (.pointer none), 1, 8) := by kernel_rfl
theorem ctype_range (s : Bs) : 1 ≤ ctype s ∧ ctype s ≤ 15 := by
  unfold ctype
  repeat' split
  all_goals omega

theorem ptrs_one1 (l : List Nat) : ∀ u ∈ ptrs l, u.oneCell' = true := by
  intro u hu
  obtain ⟨s, _, rfl⟩ := List.mem_map.1 hu
  rfl
theorem own_obj {w : World} {base : Nat} {e : TypeId} {v : Value} {n : Nat} {xs : List Value} (h : w.ownsRow base e 1 v n xs) (hn : 0 < n) :
    ∃ g cap cur, v = .slice (some ⟨g, 0, none⟩) n cap ∧ base ≤ g ∧ w.heap[g]? = some (.cells cur e (0, 0)) ∧ n ≤ cap ∧ cap ≤ maxLen ∧ cur.size = cap * 1 ∧ cur.toList.take (n * 1) = xs := by
  obtain ⟨_, ⟨_, h0⟩ | ⟨g, cap, cur, rfl, hb, hh, h1, h2, h3, h4⟩⟩ := h
  · omega
  · exact ⟨g, cap, cur, rfl, hb, hh, h1, h2, h3, h4⟩
theorem undrew {B : Nat} {X w : World} (h : Below B X.drew w) : Below B X w := ⟨h.os, h.tape, h.output, h.size, h.block⟩
theorem set_first {cur : Array Value} {cap : Nat} {y : Value} (hs : cur.size = cap * 1) (h1 : 1 ≤ cap) : (cur.setIfInBounds 0 y).toList.take (1 * 1) = [y] := by
  obtain ⟨l⟩ := cur
  cases l with
  | nil => simp at hs; omega
  | cons a l => simp
theorem splitGo_ne (sep : UInt8) (k : Nat) (s : Bs) : splitGo sep k s ≠ [] := by
  cases k with
  | zero => simp [splitGo]
  | succ k =>
    unfold splitGo
    split <;> simp
theorem split_one {s : Bs} {sep : UInt8} {c : Bs} (h : splitNE s sep = [c]) : c = s := by
  unfold splitNE at h
  cases hl : s.length with
  | zero => rw [hl] at h; simp [splitGo] at h; exact h.symm
  | succ k =>
    rw [hl] at h
    cases hn : nne s [sep] with
    | none => rw [splitGo_none hn] at h; simp at h; exact h.symm
    | some i =>
      rw [splitGo_some hn] at h
      simp only [List.cons.injEq] at h
      exact absurd h.2 (splitGo_ne _ _ _)
theorem fin_con {s : ByteArray} {P stars pluses st pl : Nat} {sv pv cv d : Value} {w wy : World} {q : Bs} {x : Seg} {con : Con} {kk : Nat} (hc : x.cons = [con]) (hg : w.grownBy wy (some P))
    (hP : wy.heap[P]? = some (.cells #[sv, pv, .int .i64 (st : Nat), .int .i64 (pl : Nat)] 79 (0, 0))) (hrow : wy.ownsRow w.heap.size 84 1 cv 1 (ptrs [kk])) (hk : w.heap.size ≤ kk) (ho : wy.heap[kk]? = some (.cells #[.int .i16 con.id, d] 66 (0, 0))) (hd : wy.ownsRow w.heap.size 9 1 d con.data.length (svals con.data)) :
    PartEnd s P stars pluses sv pv (some (q, x, st, pl)) w (.returned (.tuple #[.string (bs q), .pointer (some ⟨wy.heap.size, 0, none⟩)])) (wy.alloc (.cells (segCells x cv).toArray 99)) := by
  refine ⟨wy.heap.size, cv, rfl, hg.size, seg_new wy x _, grown_alloc hg _, ?_, ?_⟩
  · rw [Below.heap_alloc wy _ P (lt_of_obj hP)]; exact hP
  · rw [hc]
    refine ⟨[kk], rfl, hrow.alloc _, fun e => by have := (hrow.lt _ e).2; omega, fun i c h => ?_⟩
    cases i with
    | zero =>
      obtain rfl : con = c := by simpa using h
      refine ⟨kk, rfl, hk, by have := lt_of_obj ho; omega, d, ?_, hd.alloc _, fun e => by have := (hd.lt _ e).2; omega⟩
      rw [Below.heap_alloc wy _ kk (lt_of_obj ho)]; exact ho
    | succ i => simp at h
theorem po_none {p : Bs} {st pl : Nat} {nm : Bs} {cons : List Con} (h1 : ¬ p.head? = some 42) (h2 : ¬ p.head? = some 43) : partOf p st pl nm cons = (p.take (paramEnd p + 1), { const := [], isParam := true, name := nm, cmp := [], partCount := 0, greedy := false, optional := decide (p[paramEnd p]? = some 63), last := false, optSlash := false, cons := cons, length := 0 }, st, pl) := by
  simp [partOf, h1, h2]
/-- A constraint's text without data; with one datum. -/
def OneOf (c : Bs) (con : Con) : Prop :=
  (nne c [40] = none ∧ con = ⟨ctype c, []⟩) ∨
  (∃ st en d, nne c [40] = some st ∧ lb c 41 = some en ∧ st + 1 ≤ en ∧ ctype (c.take st) ≠ 15 ∧ splitNE ((c.drop (st + 1)).take (en - (st + 1))) 44 = [d] ∧ con = ⟨ctype (c.take st), [unesc d]⟩)

end Go.Proofs.YtiebedcldbmlhaaGreatDoor
namespace Go.Proofs.YtiebedcldbmlhaaGreatDoor
open Go.RowKit
set_option linter.unusedVariables false

theorem consAt_keep {W W2 : World} {base g : Nat} {v : Value} {cons : List Con} (h : ConsAt W base g v cons) (hk : ∀ k, base ≤ k → k ≠ g → k < W.heap.size → W2.heap[k]? = W.heap[k]?) : ConsAt W2 base g v cons := by
  obtain ⟨ks, h1, h2, h3, h4⟩ := h
  refine ⟨ks, h1, own_keep h2 fun k hb => hk k (h2.lt k hb).1 (fun e => h3 (e ▸ hb)) (h2.lt k hb).2, h3, fun i c hc => ?_⟩
  obtain ⟨k, a1, a2, a3, d, a4, a5, a6⟩ := h4 i c hc
  exact ⟨k, a1, a2, a3, d, (hk k a2 a3 (lt_of_obj a4)).trans a4, own_keep a5 fun k' hb => hk k' (a5.lt k' hb).1 (fun e => a6 (e ▸ hb)) (a5.lt k' hb).2, a6⟩
/-- What the constraints of the parameters among the segments hold. -/
def Inf (P : Nat) (W : World) (gs : List Nat) (cvs : List Value) (S : List Seg) : Prop :=
  ∀ (i : Nat) (x : Seg) (g : Nat) (cv : Value), S[i]? = some x → gs[i]? = some g → cvs[i]? = some cv → x.isParam = true → ∃ base, P < base ∧ (∀ g' ∈ gs, g' < base ∨ g' = g) ∧ ConsAt W base g cv x.cons
theorem inf_const {P : Nat} {W : World} {gs : List Nat} {cvs : List Value} {S : List Seg} (h : ∀ x ∈ S, x.isParam = false) : Inf P W gs cvs S :=
  fun i x g cv hx _ _ hp => by rw [h x (List.mem_of_getElem? hx)] at hp; cases hp
theorem nop_snoc {S : List Seg} {x : Seg} (h : ∀ x ∈ S, x.isParam = false) (hx : x.isParam = false) : ∀ y ∈ S ++ [x], y.isParam = false := by
  intro y hy
  rcases List.mem_append.1 hy with hy | hy
  · exact h y hy
  · obtain rfl : y = x := by simpa using hy
    exact hx
theorem inf_snoc {P L : Nat} {Z W : World} {gs : List Nat} {cvs : List Value} {S : List Seg} {x : Seg} {g : Nat} {cv : Value} (hS : ∀ x ∈ S, x.isParam = false) (h1 : gs.length = S.length) (h2 : cvs.length = S.length) (hgs : ∀ g' ∈ gs, g' < L)
    (hcon : ConsAt Z L g cv x.cons) (hP : P < L) (hk : ∀ k, L ≤ k → k < Z.heap.size → W.heap[k]? = Z.heap[k]?) : Inf P W (gs ++ [g]) (cvs ++ [cv]) (S ++ [x]) := by
  intro i y g' cv' hy hg hcv hp
  by_cases hi : i < S.length
  · rw [List.getElem?_append_left hi] at hy
    rw [hS y (List.mem_of_getElem? hy)] at hp; cases hp
  · rw [List.getElem?_append_right (by omega)] at hy
    obtain ⟨hl, _⟩ := List.getElem?_eq_some_iff.1 hy
    have hi0 : i - S.length = 0 := by simp at hl; omega
    rw [List.getElem?_append_right (by omega), h1, hi0] at hg
    rw [List.getElem?_append_right (by omega), h2, hi0] at hcv
    rw [hi0] at hy
    obtain rfl : x = y := by simpa using hy
    obtain rfl : g = g' := by simpa using hg
    obtain rfl : cv = cv' := by simpa using hcv
    refine ⟨L, hP, fun g' hm => ?_, consAt_keep hcon fun k a _ b => hk k a b⟩
    rcases List.mem_append.1 hm with hm | hm
    · exact .inl (hgs g' hm)
    · exact .inr (by simpa using hm)
theorem inf_keep {P P2 : Nat} {W W2 : World} {gs : List Nat} {cvs : List Value} {S : List Seg} (h : Inf P W gs cvs S) (hP : P2 ≤ P) (hk : ∀ k, P < k → k ∉ gs → k < W.heap.size → W2.heap[k]? = W.heap[k]?) : Inf P2 W2 gs cvs S := by
  intro i x g cv hx hg hcv hp
  obtain ⟨base, h1, h2, h3⟩ := h i x g cv hx hg hcv hp
  exact ⟨base, by omega, h2, consAt_keep h3 fun k a b c => hk k (by omega) (fun hm => (h2 k hm).elim (fun h => by omega) (fun h => b h)) c⟩
theorem oneOf_con {c : Bs} {con : Con} (h : OneOf c con) : oneCon c = some con := by
  unfold oneCon
  rcases h with ⟨h1, rfl⟩ | ⟨st, en, d, h1, h2, h3, h4, h5, rfl⟩
  · rw [h1]
  · rw [h1, h2]
    simp only [h5]
    rw [if_neg (by omega), if_neg h4]
    simp
theorem paramPart_con {p : Bs} {a z st pl : Nat} {c : Bs} {con : Con} (hst : stOf p = some a) (hen : enOf p = some z) (haz : a + 1 ≤ z) (hsp : splitNE ((p.drop (a + 1)).take (z - (a + 1))) 59 = [c]) (hone : OneOf c con) :
    paramPart p st pl = some (partOf p st pl (unesc (trimmed (p.take a))) [con]) := by
  unfold paramPart partOf
  unfold stOf at hst
  unfold enOf at hen
  simp only [hst, hen]
  rw [if_neg (by omega), hsp]
  simp only [allCons, oneOf_con hone]
theorem step_param2 {k : Nat} {p q : Bs} {x : Seg} {s' p' st pl : Nat} {S : List Seg} {N : List Bs} (h0 : paramPos p = some 0) (hp : paramPart p st pl = some (q, x, s', p')) (hne : p ≠ []) :
    parseGo (k + 1) p st pl S N = parseGo k (p.drop q.length) s' p' (S ++ [x]) (N ++ [x.name]) := by
  conv => lhs; unfold parseGo
  rw [if_neg hne, h0]
  simp only [hp]
theorem partOf_facts (p : Bs) (st pl : Nat) (nm : Bs) (cons : List Con) : (partOf p st pl nm cons).2.1.const = [] ∧ (partOf p st pl nm cons).2.1.partCount = 0 ∧ (partOf p st pl nm cons).2.1.cmp = [] ∧ (partOf p st pl nm cons).2.1.cons = cons ∧ (partOf p st pl nm cons).2.2.1 ≤ st + 1 ∧ (partOf p st pl nm cons).2.2.2 ≤ pl + 1 := by
  refine ⟨rfl, rfl, rfl, rfl, ?_, ?_⟩
  · unfold partOf; simp only; split <;> omega
  · unfold partOf; simp only; split <;> omega

/-- The rows of a parser, and the segments. -/
structure PRc (w W : World) (P : Nat) (gs : List Nat) (cvs : List Value) (S : List Seg) (N : List Bs) (sv pv : Value) : Prop where
  segs : W.ownsRow (P + 1) 96 1 sv gs.length (ptrs gs)
  names : W.ownsRow (P + 1) 9 1 pv N.length (svals N)
  apart : ∀ k, sv.ownBlock = some k → pv.ownBlock ≠ some k
  inn : SegsIn W gs S cvs
  nod : gs.Nodup
  far : ∀ g ∈ gs, P < g ∧ sv.ownBlock ≠ some g ∧ pv.ownBlock ≠ some g
  old : Below w.heap.size w W
  here : w.heap.size ≤ P

theorem PRc.row_lt {w W : World} {P : Nat} {gs : List Nat} {cvs : List Value} {S : List Seg} {N : List Bs} {sv pv : Value} (h : PRc w W P gs cvs S N sv pv) {k : Nat} (hk : pv.ownBlock = some k) : k < W.heap.size := (h.names.lt _ hk).2
theorem PRc.srow_lt {w W : World} {P : Nat} {gs : List Nat} {cvs : List Value} {S : List Seg} {N : List Bs} {sv pv : Value} (h : PRc w W P gs cvs S N sv pv) {k : Nat} (hk : sv.ownBlock = some k) : k < W.heap.size := (h.segs.lt _ hk).2
theorem PRc.size {w W : World} {P : Nat} {gs : List Nat} {cvs : List Value} {S : List Seg} {N : List Bs} {sv pv : Value} (h : PRc w W P gs cvs S N sv pv) : w.heap.size ≤ W.heap.size := h.old.size

/-- A step that leaves all old blocks but one that is none of these. -/
theorem PRc.keep {w W W2 : World} {P : Nat} {gs : List Nat} {cvs : List Value} {S : List Seg} {N : List Bs} {sv pv : Value} (h : PRc w W P gs cvs S N sv pv) {row : Option Nat} (hg : W.grownBy W2 row)
    (h1 : ∀ k, row = some k → w.heap.size ≤ k) (h2 : ∀ k, row = some k → sv.ownBlock ≠ some k ∧ pv.ownBlock ≠ some k ∧ k ∉ gs) : PRc w W2 P gs cvs S N sv pv where
  segs := h.segs.kept hg (own_ne fun k hk => (h2 k hk).1)
  names := h.names.kept hg (own_ne fun k hk => (h2 k hk).2.1)
  apart := h.apart
  inn := h.inn.keep fun g hgm => hg.block g (h.inn.lt hgm) (fun e => (h2 g e.symm).2.2 hgm)
  nod := h.nod
  far := h.far
  old := ⟨hg.os.trans h.old.os, hg.tape.trans h.old.tape, hg.output.trans h.old.output, Nat.le_trans h.old.size hg.size, fun k hk => (hg.block k (Nat.lt_of_lt_of_le hk h.old.size) (fun e => by have := h1 k e.symm; omega)).trans (h.old.block k hk)⟩
  here := h.here
theorem PRc.below {w W W2 : World} {P : Nat} {gs : List Nat} {cvs : List Value} {S : List Seg} {N : List Bs} {sv pv : Value} (h : PRc w W P gs cvs S N sv pv) (hb : Below W.heap.size W W2) : PRc w W2 P gs cvs S N sv pv :=
  h.keep (grown_of_below hb) (by intro k hk; cases hk) (by intro k hk; cases hk)
theorem PRc.own {w W W2 : World} {P : Nat} {gs : List Nat} {cvs : List Value} {S : List Seg} {N : List Bs} {sv pv : Value} (h : PRc w W P gs cvs S N sv pv) (hg : W.grownBy W2 (some P)) : PRc w W2 P gs cvs S N sv pv :=
  h.keep hg (by intro k hk; cases hk; exact h.here) (by
    intro k hk; cases hk
    exact ⟨fun e => by have := (h.segs.lt _ e).1; omega, fun e => by have := (h.names.lt _ e).1; omega, fun e => by have := (h.far _ e).1; omega⟩)
theorem PRc.setP {w W : World} {P : Nat} {gs : List Nat} {cvs : List Value} {S : List Seg} {N : List Bs} {sv pv : Value} (h : PRc w W P gs cvs S N sv pv) (i : Nat) (v : Value) : PRc w (W.setCell ⟨P, i, none⟩ v) P gs cvs S N sv pv :=
  h.own ⟨rfl, rfl, rfl, by simp, fun k hk hne => Below.heap_setCell W ⟨P, i, none⟩ v k (fun e => hne (by rw [e]))⟩
/-- A name more. -/
theorem PRc.name {w W W2 : World} {P : Nat} {gs : List Nat} {cvs : List Value} {S : List Seg} {N : List Bs} {sv pv pv' : Value} (h : PRc w W P gs cvs S N sv pv) {n : Bs} {X : Nat}
    (ho : W2.ownsRow (P + 1) 9 1 pv' (N.length + 1) (svals N ++ svals [n])) (hg : W.grownBy W2 pv.ownBlock) (hX : pv'.ownBlock = pv.ownBlock ∨ pv'.ownBlock = some X) (hx : W.heap.size ≤ X) : PRc w W2 P gs cvs S (N ++ [n]) sv pv' := by
  refine ⟨?_, by rw [svals_append, List.length_append]; exact ho, ?_, ?_, h.nod, ?_, ?_, h.here⟩
  · exact h.segs.kept hg (own_ne fun k hk e => h.apart k e hk)
  · intro k hs hp
    rcases hX with e | e
    · exact h.apart k hs (e ▸ hp)
    · rw [e] at hp; cases hp
      have := (h.segs.lt _ hs).2; omega
  · exact h.inn.keep fun g hgm => hg.block g (h.inn.lt hgm) (fun e => (h.far g hgm).2.2 e.symm)
  · intro g hgm
    refine ⟨(h.far g hgm).1, (h.far g hgm).2.1, ?_⟩
    rcases hX with e | e
    · rw [e]; exact (h.far g hgm).2.2
    · rw [e]; intro e2; cases e2; have := h.inn.lt hgm; omega
  · exact ⟨hg.os.trans h.old.os, hg.tape.trans h.old.tape, hg.output.trans h.old.output, Nat.le_trans h.old.size hg.size, fun k hk => (hg.block k (Nat.lt_of_lt_of_le hk h.old.size) (fun e => by have := (h.names.lt _ e.symm).1; have := h.here; omega)).trans (h.old.block k hk)⟩
/-- A segment more. -/
theorem PRc.seg {w W W2 : World} {P : Nat} {gs : List Nat} {cvs : List Value} {S : List Seg} {N : List Bs} {sv pv sv' : Value} (h : PRc w W P gs cvs S N sv pv) {g : Nat} {x : Seg} {cv : Value} {X : Nat}
    (hso : SegObj W g x cv) (hgn : g ∉ gs) (hgP : P < g) (hgs : sv.ownBlock ≠ some g) (hgp : pv.ownBlock ≠ some g)
    (ho : W2.ownsRow (P + 1) 96 1 sv' (gs.length + 1) (ptrs gs ++ ptrs [g])) (hg : W.grownBy W2 sv.ownBlock) (hX : sv'.ownBlock = sv.ownBlock ∨ sv'.ownBlock = some X) (hx : W.heap.size ≤ X) : PRc w W2 P (gs ++ [g]) (cvs ++ [cv]) (S ++ [x]) N sv' pv := by
  refine ⟨by rw [List.length_append, show ptrs (gs ++ [g]) = ptrs gs ++ ptrs [g] by simp [ptrs]]; exact ho, ?_, ?_, ?_, ?_, ?_, ?_, h.here⟩
  · exact h.names.kept hg (own_ne fun k hk e => h.apart k hk e)
  · intro k hs hp
    rcases hX with e | e
    · exact h.apart k (e ▸ hs) hp
    · rw [e] at hs; cases hs
      have := (h.names.lt _ hp).2; omega
  · refine SegsIn.snoc (h.inn.keep fun g' hgm => hg.block g' (h.inn.lt hgm) (fun e => (h.far g' hgm).2.1 e.symm)) ?_
    exact (hg.block g hso.lt (fun e => hgs e.symm)).trans hso
  · rw [List.nodup_append]
    exact ⟨h.nod, by simp, by intro a ha b hb; obtain rfl : b = g := by simpa using hb
                              rintro rfl; exact hgn ha⟩
  · intro g' hgm
    have hlt : g' < W.heap.size := by
      rcases List.mem_append.1 hgm with hm | hm
      · exact h.inn.lt hm
      · obtain rfl : g' = g := by simpa using hm
        exact hso.lt
    have hb : P < g' ∧ sv.ownBlock ≠ some g' ∧ pv.ownBlock ≠ some g' := by
      rcases List.mem_append.1 hgm with hm | hm
      · exact h.far g' hm
      · obtain rfl : g' = g := by simpa using hm
        exact ⟨hgP, hgs, hgp⟩
    refine ⟨hb.1, ?_, hb.2.2⟩
    rcases hX with e | e
    · rw [e]; exact hb.2.1
    · rw [e]; intro e2; cases e2; omega
  · exact ⟨hg.os.trans h.old.os, hg.tape.trans h.old.tape, hg.output.trans h.old.output, Nat.le_trans h.old.size hg.size, fun k hk => (hg.block k (Nat.lt_of_lt_of_le hk h.old.size) (fun e => by have := (h.segs.lt _ e.symm).1; have := h.here; omega)).trans (h.old.block k hk)⟩

/-- The parser's block, too. -/
def PSc (w W : World) (P : Nat) (gs : List Nat) (cvs : List Value) (S : List Seg) (N : List Bs) (st pl : Nat) (sv pv : Value) : Prop :=
  W.heap[P]? = some (.cells #[sv, pv, .int .i64 (st : Nat), .int .i64 (pl : Nat)] 79 (0, 0)) ∧ PRc w W P gs cvs S N sv pv

/-- What parseRoute leaves. -/
def ParsedC (w : World) (T M : List Seg) (N : List Bs) (e : Ending) (w' : World) : Prop :=
  ∃ (gs : List Nat) (cvs : List Value) (r cap : Nat) (pv : Value) (st pl : Nat), e = .returned (.agg #[.slice (some ⟨r, 0, none⟩) M.length cap, pv, .int .i64 (st : Nat), .int .i64 (pl : Nat)]) ∧
    SegsIn w' gs M cvs ∧ gs.Nodup ∧ Inf w.heap.size w' gs cvs T ∧ (∀ (i : Nat) (g : Nat), gs[i]? = some g → w'.cell? ⟨r, i, none⟩ = some (.pointer (some ⟨g, 0, none⟩))) ∧ r < w'.heap.size ∧
    w'.ownsRow w.heap.size 9 1 pv N.length (svals N) ∧ Below w.heap.size w w'

/-- The loop's state. -/
structure PLc (w : World) (s p : ByteArray) (T : List Seg) (U : List Bs) (r : ByteArray) (wr : World) (fuel st pl : Nat) (gs : List Nat) (cvs : List Value) (S : List Seg) (N : List Bs) (sv pv : Value) : Prop where
  fsz : r.size ≤ fuel
  size : r.size ≤ s.size
  ps : PSc w wr w.heap.size gs cvs S N st pl sv pv
  go : parseGo fuel r.data.toList st pl S N = some (T, U)
  at2 : r.data.toList = s.data.toList ∨ r.data.toList = p.data.toList
  nop : ∀ x ∈ S, x.isParam = false
  fresh : Fresh s.size S
  st1 : st + r.size ≤ s.size
  pl1 : pl + r.size ≤ s.size
  segs : S.length + r.size ≤ s.size
  nms : N.length + r.size ≤ s.size
  any : r.size < s.size → 0 < S.length

/-- The state with a new segment that is not yet in the rows. -/
structure PNc (L H : Nat) (Z : World) (w W : World) (P : Nat) (gs : List Nat) (cvs : List Value) (S : List Seg) (N : List Bs) (o : Array Value) (sv pv : Value) (g : Nat) (x : Seg) (cv : Value) : Prop where
  obj : W.heap[P]? = some (.cells o 79 (0, 0))
  pr : PRc w W P gs cvs S N sv pv
  so : SegObj W g x cv
  g1 : g ∉ gs
  g2 : P < g
  g3 : sv.ownBlock ≠ some g
  g4 : pv.ownBlock ≠ some g
  kold : ∀ k, L ≤ k → k < H → W.heap[k]? = Z.heap[k]?
  kH : H ≤ W.heap.size
  ks : ∀ k, sv.ownBlock = some k → k < L ∨ H ≤ k
  kp : ∀ k, pv.ownBlock = some k → k < L ∨ H ≤ k
  kP : P < L
theorem PNc.below {L H : Nat} {Z : World} {w W W2 : World} {P : Nat} {gs : List Nat} {cvs : List Value} {S : List Seg} {N : List Bs} {o : Array Value} {sv pv : Value} {g : Nat} {x : Seg} {cv : Value} (h : PNc L H Z w W P gs cvs S N o sv pv g x cv) (hb : Below W.heap.size W W2) : PNc L H Z w W2 P gs cvs S N o sv pv g x cv :=
  ⟨(hb.block P (lt_of_obj h.obj)).trans h.obj, h.pr.below hb, h.so.below hb h.so.lt, h.g1, h.g2, h.g3, h.g4, fun k h1 h2 => (hb.block k (Nat.lt_of_lt_of_le h2 h.kH)).trans (h.kold k h1 h2), Nat.le_trans h.kH hb.size, h.ks, h.kp, h.kP⟩
theorem PNc.alloc {L H : Nat} {Z : World} {w W : World} {P : Nat} {gs : List Nat} {cvs : List Value} {S : List Seg} {N : List Bs} {o : Array Value} {sv pv : Value} {g : Nat} {x : Seg} {cv : Value} (h : PNc L H Z w W P gs cvs S N o sv pv g x cv) (ob : Obj) : PNc L H Z w (W.alloc ob) P gs cvs S N o sv pv g x cv :=
  h.below ((Below.refl _ _).alloc (Nat.le_refl _) _)
theorem PNc.name {L H : Nat} {Z : World} {w W W2 : World} {P : Nat} {gs : List Nat} {cvs : List Value} {S : List Seg} {N : List Bs} {o : Array Value} {sv pv : Value} {g : Nat} {x : Seg} {cv : Value} (h : PNc L H Z w W P gs cvs S N o sv pv g x cv) {n : Bs} {g3 cap3 J : Nat}
    (ho : W2.ownsRow (P + 1) 9 1 (.slice (some ⟨g3, 0, none⟩) (N.length + 1) cap3) (N.length + 1) (svals N ++ [.string (bs n)])) (hg : W.grownBy W2 pv.ownBlock) (ha : pv.ownBlock = some g3 ∨ g3 = J) (hH : W.heap.size = J) :
    PNc L H Z w W2 P gs cvs S (N ++ [n]) o sv (.slice (some ⟨g3, 0, none⟩) (N.length + 1) cap3) g x cv := by
  subst hH
  refine ⟨(hg.block P (lt_of_obj h.obj) (fun e => ?_)).trans h.obj, h.pr.name ho hg (ha.imp (fun e => e.symm) (fun e => congrArg some e)) (Nat.le_refl _), (hg.block g h.so.lt (fun e => h.g4 e.symm)).trans h.so, h.g1, h.g2, h.g3, ?_, fun k h1 h2 => (hg.block k (Nat.lt_of_lt_of_le h2 h.kH) (fun e => by have := h.kp k e.symm; omega)).trans (h.kold k h1 h2), Nat.le_trans h.kH hg.size, h.ks, fun k hk => ?_, h.kP⟩
  · have := (h.pr.names.lt _ e.symm).1; omega
  · intro e
    have e' : g3 = g := Option.some.inj e
    subst e'
    rcases ha with e | e
    · exact h.g4 e
    · have := h.so.lt; omega
  · have hk' : g3 = k := Option.some.inj hk
    subst hk'
    rcases ha with e | e
    · exact h.kp _ e
    · have := h.kH; omega
theorem PNc.seg {L H : Nat} {Z : World} {w W W2 : World} {P : Nat} {gs : List Nat} {cvs : List Value} {S : List Seg} {N : List Bs} {o : Array Value} {sv pv : Value} {g : Nat} {x : Seg} {cv : Value} (h : PNc L H Z w W P gs cvs S N o sv pv g x cv) {g3 cap3 J : Nat}
    (ho : W2.ownsRow (P + 1) 96 1 (.slice (some ⟨g3, 0, none⟩) (gs.length + 1) cap3) (gs.length + 1) (ptrs gs ++ [.pointer (some ⟨g, 0, none⟩)])) (hg : W.grownBy W2 sv.ownBlock) (ha : sv.ownBlock = some g3 ∨ g3 = J) (hH : W.heap.size = J) :
    W2.heap[P]? = some (.cells o 79 (0, 0)) ∧ PRc w W2 P (gs ++ [g]) (cvs ++ [cv]) (S ++ [x]) N (.slice (some ⟨g3, 0, none⟩) (gs.length + 1) cap3) pv ∧ (∀ k, L ≤ k → k < H → W2.heap[k]? = Z.heap[k]?) := by
  subst hH
  refine ⟨(hg.block P (lt_of_obj h.obj) (fun e => ?_)).trans h.obj, h.pr.seg h.so h.g1 h.g2 h.g3 h.g4 ho hg (ha.imp (fun e => e.symm) (fun e => congrArg some e)) (Nat.le_refl _), fun k h1 h2 => (hg.block k (Nat.lt_of_lt_of_le h2 h.kH) (fun e => by have := h.ks k e.symm; omega)).trans (h.kold k h1 h2)⟩
  have := (h.pr.segs.lt _ e.symm).1; omega
theorem PNc.so_keep {L H : Nat} {Z : World} {w W W2 : World} {P : Nat} {gs : List Nat} {cvs : List Value} {S : List Seg} {N : List Bs} {o : Array Value} {sv pv : Value} {g : Nat} {x : Seg} {cv : Value} (h : PNc L H Z w W P gs cvs S N o sv pv g x cv) (hg : W.grownBy W2 sv.ownBlock) : SegObj W2 g x cv :=
  (hg.block g h.so.lt (fun e => h.g3 e.symm)).trans h.so
theorem PNc.cells {L H : Nat} {Z : World} {w W : World} {P : Nat} {gs : List Nat} {cvs : List Value} {S : List Seg} {N : List Bs} {st pl : Nat} {sa pa sv pv : Value} {g : Nat} {x : Seg} {cv : Value} (h : PNc L H Z w W P gs cvs S N #[sa, pa, .int .i64 (st : Nat), .int .i64 (pl : Nat)] sv pv g x cv) :
    W.cell? ⟨P, 0, none⟩ = some sa ∧ W.cell? ⟨P, 1, none⟩ = some pa ∧ W.cell? ⟨g, 2, none⟩ = some (.string (bs x.name)) :=
  ⟨obj_cell h.obj rfl, obj_cell h.obj rfl, h.so.cell 2 _ rfl⟩
/-- The two stores into the parser's block. -/
theorem psc_stored {w W : World} {P : Nat} {gs : List Nat} {cvs : List Value} {S : List Seg} {N : List Bs} {a b : Value} {st pl : Nat} {sv pv : Value} (h : W.heap[P]? = some (.cells #[a, b, .int .i64 (st : Nat), .int .i64 (pl : Nat)] 79 (0, 0)) ∧ PRc w W P gs cvs S N sv pv) :
    PSc w ((W.setCell ⟨P, 1, none⟩ pv).setCell ⟨P, 0, none⟩ sv) P gs cvs S N st pl sv pv :=
  ⟨obj_set (i := 0) sv (obj_set (i := 1) pv h.1), (h.2.setP 1 pv).setP 0 sv⟩
theorem psc_stored0 {w W : World} {P : Nat} {gs : List Nat} {cvs : List Value} {S : List Seg} {N : List Bs} {a : Value} {st pl : Nat} {sv pv : Value} (h : W.heap[P]? = some (.cells #[a, pv, .int .i64 (st : Nat), .int .i64 (pl : Nat)] 79 (0, 0)) ∧ PRc w W P gs cvs S N sv pv) :
    PSc w (W.setCell ⟨P, 0, none⟩ sv) P gs cvs S N st pl sv pv :=
  ⟨obj_set (i := 0) sv h.1, h.2.setP 0 sv⟩

/-- The state in the middle of a round: the part is in the rows, the pattern is not yet cut. -/
structure PHc (w : World) (s p : ByteArray) (T : List Seg) (U : List Bs) (r : ByteArray) (wr : World) (fuel st pl : Nat) (q : Bs) (gs : List Nat) (cvs : List Value) (S : List Seg) (N : List Bs) (sv pv : Value) : Prop where
  q1 : 1 ≤ q.length
  q2 : q.length ≤ r.size
  fsz : r.size ≤ fuel + 1
  ps : PSc w wr w.heap.size gs cvs S N st pl sv pv
  go : parseGo fuel (r.data.toList.drop q.length) st pl S N = some (T, U)
  fresh : Fresh s.size S
  st1 : st + r.size ≤ s.size + 1
  pl1 : pl + r.size ≤ s.size + 1
  segs : S.length + r.size ≤ s.size + 1
  nms : N.length + r.size ≤ s.size + 1
  any : 0 < S.length
  inf : Inf w.heap.size wr gs cvs S
  at3 : q.length < r.size → r.data.toList.drop q.length = p.data.toList ∧ ∀ x ∈ S, x.isParam = false

end Go.Proofs.YtiebedcldbmlhaaGreatDoor
namespace Go.Proofs.YtiebedcldbmlhaaGreatDoor
open Go.RowKit
set_option linter.unusedVariables false

/-- A panic of Go's own or of the text's: one entry, an interface value, not recovered. -/
def Dies (e : Ending) : Prop := ∃ T x, e = .panicked [{ v := .iface T x, recovered := false }]
theorem dies_bounds (P : Program) (x y : Int) (s : Bool) (c : Nat) : Dies (.panicked [{ v := boundsValue P x y s c, recovered := false }]) := ⟨_, _, rfl⟩
theorem boundsPanic_drew {α : Type} (P : Program) (w : World) (k : IntKind) (x y : Int) (code : BoundsCode) :
    ∃ s q, (boundsPanic k x y code : Sem α).run P w = .halt (.panic (boundsValue P (IntKind.i64.wrap x) y s code.toNat)) (w.drewN q) := by
  unfold boundsPanic boundsValue
  split
  · simp [runtimePanic, goPanic, go_sem]
    exact ⟨1, rfl⟩
  · simp [runtimePanic, goPanic, go_sem]
    exact ⟨0, rfl⟩
/-- An index of a string below zero; the bounds of a string's slice where the lower one is above the upper one. -/
theorem index_neg (P : Program) (w : World) (t : TypeId) (s : ByteArray) (k : IntKind) (i : Int) (h : P.underlying t = some .string) (ho : i < 0) :
    ∃ b q, (Instr.index t (.string s) (.int k i)).run P w = .halt (.panic (boundsValue P (IntKind.i64.wrap i) s.size b 0)) (w.drewN q) := by
  have hnone : (if 0 ≤ i then s[i.toNat]? else none) = none := if_neg (by omega)
  have e1 : (Instr.index t (.string s) (.int k i)).run P w = (boundsPanic k i s.size .index).run P w := by
    simp [Instr.index, run_underlying h, asIntOf, hnone, go_sem]
  rw [e1]
  exact boundsPanic_drew P w k i s.size .index
theorem sliceBound_low (P : Program) (w : World) (k : IntKind) (l : Int) (n : Nat) (ho : l < 0 ∨ (n : Int) < l) :
    ∃ b q, (Instr.sliceBound (.int k l) n .sliceB).run P w = .halt (.panic (boundsValue P (IntKind.i64.wrap l) n b 3)) (w.drewN q) := by
  have hn : ¬ (0 ≤ l ∧ l ≤ (n : Int)) := by omega
  have e1 : (Instr.sliceBound (.int k l) n .sliceB).run P w = (boundsPanic k l n .sliceB).run P w := by
    unfold Instr.sliceBound
    simp only [asIntOf, Sem.run_bind, Sem.run_pure, Result.andThen, hn, if_false]
  rw [e1]
  exact boundsPanic_drew P w k l n .sliceB
theorem slice_low (P : Program) (w : World) (t : TypeId) (s : ByteArray) (kl kh : IntKind) (l : Int) (h : Nat) (ht : P.underlying t = some .string) (h1 : h ≤ s.size) (ho : l < 0 ∨ (h : Int) < l) :
    ∃ b q, (Instr.slice t (.string s) (some (.int kl l)) (some (.int kh (h : Int))) none).run P w = .halt (.panic (boundsValue P (IntKind.i64.wrap l) h b 3)) (w.drewN q) := by
  obtain ⟨b, q, e⟩ := sliceBound_low P w kl l h ho
  have h1' : (h : Int) ≤ (s.size : Int) := by omega
  have eh : ∀ code, (Instr.sliceBound (.int kh (h : Int)) s.size code).run P w = .ok h w := fun code => by simp [Instr.sliceBound, asIntOf, h1', go_sem]
  have hb : (Instr.sliceBounds false s.size s.size (some (.int kl l)) (some (.int kh (h : Int))) none).run P w = .halt (.panic (boundsValue P (IntKind.i64.wrap l) h b 3)) (w.drewN q) := by
    unfold Instr.sliceBounds
    have e' : (Instr.sliceBound (.int kl l) h (if (none : Option Value).isSome = true then BoundsCode.slice3C else BoundsCode.sliceB)).run P w = .halt (.panic (boundsValue P (IntKind.i64.wrap l) h b 3)) (w.drewN q) := e
    simp only [Sem.run_bind, Sem.run_pure, Result.andThen, eh, Bool.false_eq_true, if_false]
    rw [e']
  exact ⟨b, q, run_slice_string_of_bounds t s _ _ ht hb⟩

/-- What addParameterMetaInfo leaves. -/
def MetaEnd (gs : List Nat) (cvs : List Value) (r n cap : Nat) (o : Option (List Seg)) (w : World) (e : Ending) (w' : World) : Prop :=
  Touch gs w w' ∧ match o with
  | some M => e = .returned (.slice (some ⟨r, 0, none⟩) n cap) ∧ SegsIn w' gs M cvs
  | none => Dies e
theorem mfo_param {x : Seg} {r : List Seg} (hp : x.isParam = true) : metaFwd (x :: r) = (metaFwd r).map (fun T => { x with length := lenOf x r, partCount := if x.cmp = [] then x.partCount else r.foldl (addC x.cmp) x.partCount } :: T) := by
  cases hr : metaFwd r with
  | some T =>
    cases h : metaFwd (x :: r) with
    | some T2 =>
      obtain ⟨T', h1, h2⟩ := mf_param h hp
      rw [hr] at h1
      cases h1
      rw [h2]; rfl
    | none =>
      exfalso
      unfold metaFwd at h
      simp only [hp, if_true] at h
      rw [hr] at h
      simp at h
  | none =>
    unfold metaFwd
    simp only [hp, if_true]
    rw [hr]
    rfl
theorem mfo_const {x : Seg} {r : List Seg} {c : UInt8} (hp : x.isParam = false) (hc : x.const.getLast? = some c) : metaFwd (x :: r) = (metaFwd r).map (fun T => (if c = 47 ∧ (x.last = true ∨ (r.head?.map (·.optional)) = some true) then { x with optSlash := true } else x) :: T) := by
  cases hr : metaFwd r with
  | some T =>
    cases h : metaFwd (x :: r) with
    | some T2 =>
      obtain ⟨c', T', h0, h1, h2⟩ := mf_const h hp
      rw [hc] at h0
      cases h0
      rw [hr] at h1
      cases h1
      rw [h2]; rfl
    | none =>
      exfalso
      unfold metaFwd at h
      simp only [hp, Bool.false_eq_true, if_false] at h
      rw [hc] at h
      simp only at h
      rw [hr] at h
      simp at h
  | none =>
    unfold metaFwd
    simp only [hp, Bool.false_eq_true, if_false]
    rw [hc]
    simp only
    rw [hr]
    rfl
theorem mfo_none {x : Seg} {r : List Seg} (hp : x.isParam = false) (hc : x.const = []) : metaFwd (x :: r) = none := by
  unfold metaFwd
  simp only [hp, Bool.false_eq_true, if_false, hc, List.getLast?_nil]
theorem mo_step {O : Option (List Seg)} {D R : List Seg} {y : Seg} (h : O = ((metaFwd R).map (fun T => y :: T)).map (fun T => D ++ T)) : O = (metaFwd R).map (fun T => (D ++ [y]) ++ T) := by
  rw [h]
  cases metaFwd R with
  | none => rfl
  | some T => simp
end Go.Proofs.YtiebedcldbmlhaaGreatDoor
