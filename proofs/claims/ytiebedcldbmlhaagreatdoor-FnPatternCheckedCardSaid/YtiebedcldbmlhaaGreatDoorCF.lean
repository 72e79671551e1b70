/-
  parseRoute, of a constant part and one parameter with one constraint. Conditions: of at most a million bytes.
-/
import Derived.Test.YtiebedcldbmlhaaGreatDoorCE
namespace Go.Proofs.YtiebedcldbmlhaaGreatDoor
open Go.RowKit
set_option linter.unusedVariables false

theorem consAt_keep {W W2 : World} {base g : Nat} {v : Value} {cons : List Con} (h : ConsAt W base g v cons) (hk : ∀ k, base ≤ k → k ≠ g → k < W.heap.size → W2.heap[k]? = W.heap[k]?) : ConsAt W2 base g v cons := by
  obtain ⟨ks, h1, h2, h3, h4⟩ := h
  refine ⟨ks, h1, own_keep h2 fun k hb => hk k (h2.lt k hb).1 (fun e => h3 (e ▸ hb)) (h2.lt k hb).2, h3, fun i c hc => ?_⟩
  obtain ⟨k, a1, a2, a3, d, a4, a5, a6⟩ := h4 i c hc
  exact ⟨k, a1, a2, a3, d, (hk k a2 a3 (lt_of_obj a4)).trans a4, own_keep a5 fun k' hb => hk k' (a5.lt k' hb).1 (fun e => a6 (e ▸ hb)) (a5.lt k' hb).2, a6⟩
/-- What the constraints of the parameters among the segments hold. -/
def Inf (P : Nat) (W : World) (gs : List Nat) (cvs : List Value) (S : List Seg) : Prop :=
  ∀ (i : Nat) (x : Seg) (g : Nat) (cv : Value), S[i]? = some x → gs[i]? = some g → cvs[i]? = some cv → x.isParam = true → ∃ base, P < base ∧ (∀ g' ∈ gs, g' < base ∨ g' = g) ∧ ConsAt W base g cv x.cons
theorem inf_const {P : Nat} {W : World} {gs : List Nat} {cvs : List Value} {S : List Seg} (h : ∀ x ∈ S, x.isParam = false) : Inf P W gs cvs S :=
  fun i x g cv hx _ _ hp => by rw [h x (List.mem_of_getElem? hx)] at hp; cases hp
theorem nop_snoc {S : List Seg} {x : Seg} (h : ∀ x ∈ S, x.isParam = false) (hx : x.isParam = false) : ∀ y ∈ S ++ [x], y.isParam = false := by
  intro y hy
  rcases List.mem_append.1 hy with hy | hy
  · exact h y hy
  · obtain rfl : y = x := by simpa using hy
    exact hx
theorem inf_snoc {P L : Nat} {Z W : World} {gs : List Nat} {cvs : List Value} {S : List Seg} {x : Seg} {g : Nat} {cv : Value} (hS : ∀ x ∈ S, x.isParam = false) (h1 : gs.length = S.length) (h2 : cvs.length = S.length) (hgs : ∀ g' ∈ gs, g' < L)
    (hcon : ConsAt Z L g cv x.cons) (hP : P < L) (hk : ∀ k, L ≤ k → k < Z.heap.size → W.heap[k]? = Z.heap[k]?) : Inf P W (gs ++ [g]) (cvs ++ [cv]) (S ++ [x]) := by
  intro i y g' cv' hy hg hcv hp
  by_cases hi : i < S.length
  · rw [List.getElem?_append_left hi] at hy
    rw [hS y (List.mem_of_getElem? hy)] at hp; cases hp
  · rw [List.getElem?_append_right (by omega)] at hy
    obtain ⟨hl, _⟩ := List.getElem?_eq_some_iff.1 hy
    have hi0 : i - S.length = 0 := by simp at hl; omega
    rw [List.getElem?_append_right (by omega), h1, hi0] at hg
    rw [List.getElem?_append_right (by omega), h2, hi0] at hcv
    rw [hi0] at hy
    obtain rfl : x = y := by simpa using hy
    obtain rfl : g = g' := by simpa using hg
    obtain rfl : cv = cv' := by simpa using hcv
    refine ⟨L, hP, fun g' hm => ?_, consAt_keep hcon fun k a _ b => hk k a b⟩
    rcases List.mem_append.1 hm with hm | hm
    · exact .inl (hgs g' hm)
    · exact .inr (by simpa using hm)
theorem inf_keep {P P2 : Nat} {W W2 : World} {gs : List Nat} {cvs : List Value} {S : List Seg} (h : Inf P W gs cvs S) (hP : P2 ≤ P) (hk : ∀ k, P < k → k ∉ gs → k < W.heap.size → W2.heap[k]? = W.heap[k]?) : Inf P2 W2 gs cvs S := by
  intro i x g cv hx hg hcv hp
  obtain ⟨base, h1, h2, h3⟩ := h i x g cv hx hg hcv hp
  exact ⟨base, by omega, h2, consAt_keep h3 fun k a b c => hk k (by omega) (fun hm => (h2 k hm).elim (fun h => by omega) (fun h => b h)) c⟩
theorem oneOf_con {c : Bs} {con : Con} (h : OneOf c con) : oneCon c = some con := by
  unfold oneCon
  rcases h with ⟨h1, rfl⟩ | ⟨st, en, d, h1, h2, h3, h4, h5, rfl⟩
  · rw [h1]
  · rw [h1, h2]
    simp only [h5]
    rw [if_neg (by omega), if_neg h4]
    simp
theorem paramPart_con {p : Bs} {a z st pl : Nat} {c : Bs} {con : Con} (hst : stOf p = some a) (hen : enOf p = some z) (haz : a + 1 ≤ z) (hsp : splitNE ((p.drop (a + 1)).take (z - (a + 1))) 59 = [c]) (hone : OneOf c con) :
    paramPart p st pl = some (partOf p st pl (unesc (trimmed (p.take a))) [con]) := by
  unfold paramPart partOf
  unfold stOf at hst
  unfold enOf at hen
  simp only [hst, hen]
  rw [if_neg (by omega), hsp]
  simp only [allCons, oneOf_con hone]
theorem step_param2 {k : Nat} {p q : Bs} {x : Seg} {s' p' st pl : Nat} {S : List Seg} {N : List Bs} (h0 : paramPos p = some 0) (hp : paramPart p st pl = some (q, x, s', p')) (hne : p ≠ []) :
    parseGo (k + 1) p st pl S N = parseGo k (p.drop q.length) s' p' (S ++ [x]) (N ++ [x.name]) := by
  conv => lhs; unfold parseGo
  rw [if_neg hne, h0]
  simp only [hp]
theorem partOf_facts (p : Bs) (st pl : Nat) (nm : Bs) (cons : List Con) : (partOf p st pl nm cons).2.1.const = [] ∧ (partOf p st pl nm cons).2.1.partCount = 0 ∧ (partOf p st pl nm cons).2.1.cmp = [] ∧ (partOf p st pl nm cons).2.1.cons = cons ∧ (partOf p st pl nm cons).2.2.1 ≤ st + 1 ∧ (partOf p st pl nm cons).2.2.2 ≤ pl + 1 := by
  refine ⟨rfl, rfl, rfl, rfl, ?_, ?_⟩
  · unfold partOf; simp only; split <;> omega
  · unfold partOf; simp only; split <;> omega

/-- The rows of a parser, and the segments. -/
structure PRc (w W : World) (P : Nat) (gs : List Nat) (cvs : List Value) (S : List Seg) (N : List Bs) (sv pv : Value) : Prop where
  segs : W.ownsRow (P + 1) 96 1 sv gs.length (ptrs gs)
  names : W.ownsRow (P + 1) 9 1 pv N.length (svals N)
  apart : ∀ k, sv.ownBlock = some k → pv.ownBlock ≠ some k
  inn : SegsIn W gs S cvs
  nod : gs.Nodup
  far : ∀ g ∈ gs, P < g ∧ sv.ownBlock ≠ some g ∧ pv.ownBlock ≠ some g
  old : Below w.heap.size w W
  here : w.heap.size ≤ P

theorem PRc.row_lt {w W : World} {P : Nat} {gs : List Nat} {cvs : List Value} {S : List Seg} {N : List Bs} {sv pv : Value} (h : PRc w W P gs cvs S N sv pv) {k : Nat} (hk : pv.ownBlock = some k) : k < W.heap.size := (h.names.lt _ hk).2
theorem PRc.srow_lt {w W : World} {P : Nat} {gs : List Nat} {cvs : List Value} {S : List Seg} {N : List Bs} {sv pv : Value} (h : PRc w W P gs cvs S N sv pv) {k : Nat} (hk : sv.ownBlock = some k) : k < W.heap.size := (h.segs.lt _ hk).2
theorem PRc.size {w W : World} {P : Nat} {gs : List Nat} {cvs : List Value} {S : List Seg} {N : List Bs} {sv pv : Value} (h : PRc w W P gs cvs S N sv pv) : w.heap.size ≤ W.heap.size := h.old.size

/-- A step that leaves all old blocks but one that is none of these. -/
theorem PRc.keep {w W W2 : World} {P : Nat} {gs : List Nat} {cvs : List Value} {S : List Seg} {N : List Bs} {sv pv : Value} (h : PRc w W P gs cvs S N sv pv) {row : Option Nat} (hg : W.grownBy W2 row)
    (h1 : ∀ k, row = some k → w.heap.size ≤ k) (h2 : ∀ k, row = some k → sv.ownBlock ≠ some k ∧ pv.ownBlock ≠ some k ∧ k ∉ gs) : PRc w W2 P gs cvs S N sv pv where
  segs := h.segs.kept hg (own_ne fun k hk => (h2 k hk).1)
  names := h.names.kept hg (own_ne fun k hk => (h2 k hk).2.1)
  apart := h.apart
  inn := h.inn.keep fun g hgm => hg.block g (h.inn.lt hgm) (fun e => (h2 g e.symm).2.2 hgm)
  nod := h.nod
  far := h.far
  old := ⟨hg.os.trans h.old.os, hg.tape.trans h.old.tape, hg.output.trans h.old.output, Nat.le_trans h.old.size hg.size, fun k hk => (hg.block k (Nat.lt_of_lt_of_le hk h.old.size) (fun e => by have := h1 k e.symm; omega)).trans (h.old.block k hk)⟩
  here := h.here
theorem PRc.below {w W W2 : World} {P : Nat} {gs : List Nat} {cvs : List Value} {S : List Seg} {N : List Bs} {sv pv : Value} (h : PRc w W P gs cvs S N sv pv) (hb : Below W.heap.size W W2) : PRc w W2 P gs cvs S N sv pv :=
  h.keep (grown_of_below hb) (by intro k hk; cases hk) (by intro k hk; cases hk)
theorem PRc.own {w W W2 : World} {P : Nat} {gs : List Nat} {cvs : List Value} {S : List Seg} {N : List Bs} {sv pv : Value} (h : PRc w W P gs cvs S N sv pv) (hg : W.grownBy W2 (some P)) : PRc w W2 P gs cvs S N sv pv :=
  h.keep hg (by intro k hk; cases hk; exact h.here) (by
    intro k hk; cases hk
    exact ⟨fun e => by have := (h.segs.lt _ e).1; omega, fun e => by have := (h.names.lt _ e).1; omega, fun e => by have := (h.far _ e).1; omega⟩)
theorem PRc.setP {w W : World} {P : Nat} {gs : List Nat} {cvs : List Value} {S : List Seg} {N : List Bs} {sv pv : Value} (h : PRc w W P gs cvs S N sv pv) (i : Nat) (v : Value) : PRc w (W.setCell ⟨P, i, none⟩ v) P gs cvs S N sv pv :=
  h.own ⟨rfl, rfl, rfl, by simp, fun k hk hne => Below.heap_setCell W ⟨P, i, none⟩ v k (fun e => hne (by rw [e]))⟩
/-- A name more. -/
theorem PRc.name {w W W2 : World} {P : Nat} {gs : List Nat} {cvs : List Value} {S : List Seg} {N : List Bs} {sv pv pv' : Value} (h : PRc w W P gs cvs S N sv pv) {n : Bs} {X : Nat}
    (ho : W2.ownsRow (P + 1) 9 1 pv' (N.length + 1) (svals N ++ svals [n])) (hg : W.grownBy W2 pv.ownBlock) (hX : pv'.ownBlock = pv.ownBlock ∨ pv'.ownBlock = some X) (hx : W.heap.size ≤ X) : PRc w W2 P gs cvs S (N ++ [n]) sv pv' := by
  refine ⟨?_, by rw [svals_append, List.length_append]; exact ho, ?_, ?_, h.nod, ?_, ?_, h.here⟩
  · exact h.segs.kept hg (own_ne fun k hk e => h.apart k e hk)
  · intro k hs hp
    rcases hX with e | e
    · exact h.apart k hs (e ▸ hp)
    · rw [e] at hp; cases hp
      have := (h.segs.lt _ hs).2; omega
  · exact h.inn.keep fun g hgm => hg.block g (h.inn.lt hgm) (fun e => (h.far g hgm).2.2 e.symm)
  · intro g hgm
    refine ⟨(h.far g hgm).1, (h.far g hgm).2.1, ?_⟩
    rcases hX with e | e
    · rw [e]; exact (h.far g hgm).2.2
    · rw [e]; intro e2; cases e2; have := h.inn.lt hgm; omega
  · exact ⟨hg.os.trans h.old.os, hg.tape.trans h.old.tape, hg.output.trans h.old.output, Nat.le_trans h.old.size hg.size, fun k hk => (hg.block k (Nat.lt_of_lt_of_le hk h.old.size) (fun e => by have := (h.names.lt _ e.symm).1; have := h.here; omega)).trans (h.old.block k hk)⟩
/-- A segment more. -/
theorem PRc.seg {w W W2 : World} {P : Nat} {gs : List Nat} {cvs : List Value} {S : List Seg} {N : List Bs} {sv pv sv' : Value} (h : PRc w W P gs cvs S N sv pv) {g : Nat} {x : Seg} {cv : Value} {X : Nat}
    (hso : SegObj W g x cv) (hgn : g ∉ gs) (hgP : P < g) (hgs : sv.ownBlock ≠ some g) (hgp : pv.ownBlock ≠ some g)
    (ho : W2.ownsRow (P + 1) 96 1 sv' (gs.length + 1) (ptrs gs ++ ptrs [g])) (hg : W.grownBy W2 sv.ownBlock) (hX : sv'.ownBlock = sv.ownBlock ∨ sv'.ownBlock = some X) (hx : W.heap.size ≤ X) : PRc w W2 P (gs ++ [g]) (cvs ++ [cv]) (S ++ [x]) N sv' pv := by
  refine ⟨by rw [List.length_append, show ptrs (gs ++ [g]) = ptrs gs ++ ptrs [g] by simp [ptrs]]; exact ho, ?_, ?_, ?_, ?_, ?_, ?_, h.here⟩
  · exact h.names.kept hg (own_ne fun k hk e => h.apart k hk e)
  · intro k hs hp
    rcases hX with e | e
    · exact h.apart k (e ▸ hs) hp
    · rw [e] at hs; cases hs
      have := (h.names.lt _ hp).2; omega
  · refine SegsIn.snoc (h.inn.keep fun g' hgm => hg.block g' (h.inn.lt hgm) (fun e => (h.far g' hgm).2.1 e.symm)) ?_
    exact (hg.block g hso.lt (fun e => hgs e.symm)).trans hso
  · rw [List.nodup_append]
    exact ⟨h.nod, by simp, by intro a ha b hb; obtain rfl : b = g := by simpa using hb
                              rintro rfl; exact hgn ha⟩
  · intro g' hgm
    have hlt : g' < W.heap.size := by
      rcases List.mem_append.1 hgm with hm | hm
      · exact h.inn.lt hm
      · obtain rfl : g' = g := by simpa using hm
        exact hso.lt
    have hb : P < g' ∧ sv.ownBlock ≠ some g' ∧ pv.ownBlock ≠ some g' := by
      rcases List.mem_append.1 hgm with hm | hm
      · exact h.far g' hm
      · obtain rfl : g' = g := by simpa using hm
        exact ⟨hgP, hgs, hgp⟩
    refine ⟨hb.1, ?_, hb.2.2⟩
    rcases hX with e | e
    · rw [e]; exact hb.2.1
    · rw [e]; intro e2; cases e2; omega
  · exact ⟨hg.os.trans h.old.os, hg.tape.trans h.old.tape, hg.output.trans h.old.output, Nat.le_trans h.old.size hg.size, fun k hk => (hg.block k (Nat.lt_of_lt_of_le hk h.old.size) (fun e => by have := (h.segs.lt _ e.symm).1; have := h.here; omega)).trans (h.old.block k hk)⟩

/-- The parser's block, too. -/
def PSc (w W : World) (P : Nat) (gs : List Nat) (cvs : List Value) (S : List Seg) (N : List Bs) (st pl : Nat) (sv pv : Value) : Prop :=
  W.heap[P]? = some (.cells #[sv, pv, .int .i64 (st : Nat), .int .i64 (pl : Nat)] 79 (0, 0)) ∧ PRc w W P gs cvs S N sv pv

/-- What parseRoute leaves. -/
def ParsedC (w : World) (T M : List Seg) (N : List Bs) (e : Ending) (w' : World) : Prop :=
  ∃ (gs : List Nat) (cvs : List Value) (r cap : Nat) (pv : Value) (st pl : Nat), e = .returned (.agg #[.slice (some ⟨r, 0, none⟩) M.length cap, pv, .int .i64 (st : Nat), .int .i64 (pl : Nat)]) ∧
    SegsIn w' gs M cvs ∧ gs.Nodup ∧ Inf w.heap.size w' gs cvs T ∧ (∀ (i : Nat) (g : Nat), gs[i]? = some g → w'.cell? ⟨r, i, none⟩ = some (.pointer (some ⟨g, 0, none⟩))) ∧ r < w'.heap.size ∧
    w'.ownsRow w.heap.size 9 1 pv N.length (svals N) ∧ Below w.heap.size w w'

/-- The loop's state. -/
structure PLc (w : World) (s p : ByteArray) (T : List Seg) (U : List Bs) (r : ByteArray) (wr : World) (fuel st pl : Nat) (gs : List Nat) (cvs : List Value) (S : List Seg) (N : List Bs) (sv pv : Value) : Prop where
  fsz : r.size ≤ fuel
  size : r.size ≤ s.size
  ps : PSc w wr w.heap.size gs cvs S N st pl sv pv
  go : parseGo fuel r.data.toList st pl S N = some (T, U)
  at2 : r.data.toList = s.data.toList ∨ r.data.toList = p.data.toList
  nop : ∀ x ∈ S, x.isParam = false
  fresh : Fresh s.size S
  st1 : st + r.size ≤ s.size
  pl1 : pl + r.size ≤ s.size
  segs : S.length + r.size ≤ s.size
  nms : N.length + r.size ≤ s.size
  any : r.size < s.size → 0 < S.length

/-- The state with a new segment that is not yet in the rows. -/
structure PNc (L H : Nat) (Z : World) (w W : World) (P : Nat) (gs : List Nat) (cvs : List Value) (S : List Seg) (N : List Bs) (o : Array Value) (sv pv : Value) (g : Nat) (x : Seg) (cv : Value) : Prop where
  obj : W.heap[P]? = some (.cells o 79 (0, 0))
  pr : PRc w W P gs cvs S N sv pv
  so : SegObj W g x cv
  g1 : g ∉ gs
  g2 : P < g
  g3 : sv.ownBlock ≠ some g
  g4 : pv.ownBlock ≠ some g
  kold : ∀ k, L ≤ k → k < H → W.heap[k]? = Z.heap[k]?
  kH : H ≤ W.heap.size
  ks : ∀ k, sv.ownBlock = some k → k < L ∨ H ≤ k
  kp : ∀ k, pv.ownBlock = some k → k < L ∨ H ≤ k
  kP : P < L
theorem PNc.below {L H : Nat} {Z : World} {w W W2 : World} {P : Nat} {gs : List Nat} {cvs : List Value} {S : List Seg} {N : List Bs} {o : Array Value} {sv pv : Value} {g : Nat} {x : Seg} {cv : Value} (h : PNc L H Z w W P gs cvs S N o sv pv g x cv) (hb : Below W.heap.size W W2) : PNc L H Z w W2 P gs cvs S N o sv pv g x cv :=
  ⟨(hb.block P (lt_of_obj h.obj)).trans h.obj, h.pr.below hb, h.so.below hb h.so.lt, h.g1, h.g2, h.g3, h.g4, fun k h1 h2 => (hb.block k (Nat.lt_of_lt_of_le h2 h.kH)).trans (h.kold k h1 h2), Nat.le_trans h.kH hb.size, h.ks, h.kp, h.kP⟩
theorem PNc.alloc {L H : Nat} {Z : World} {w W : World} {P : Nat} {gs : List Nat} {cvs : List Value} {S : List Seg} {N : List Bs} {o : Array Value} {sv pv : Value} {g : Nat} {x : Seg} {cv : Value} (h : PNc L H Z w W P gs cvs S N o sv pv g x cv) (ob : Obj) : PNc L H Z w (W.alloc ob) P gs cvs S N o sv pv g x cv :=
  h.below ((Below.refl _ _).alloc (Nat.le_refl _) _)
theorem PNc.name {L H : Nat} {Z : World} {w W W2 : World} {P : Nat} {gs : List Nat} {cvs : List Value} {S : List Seg} {N : List Bs} {o : Array Value} {sv pv : Value} {g : Nat} {x : Seg} {cv : Value} (h : PNc L H Z w W P gs cvs S N o sv pv g x cv) {n : Bs} {g3 cap3 J : Nat}
    (ho : W2.ownsRow (P + 1) 9 1 (.slice (some ⟨g3, 0, none⟩) (N.length + 1) cap3) (N.length + 1) (svals N ++ [.string (bs n)])) (hg : W.grownBy W2 pv.ownBlock) (ha : pv.ownBlock = some g3 ∨ g3 = J) (hH : W.heap.size = J) :
    PNc L H Z w W2 P gs cvs S (N ++ [n]) o sv (.slice (some ⟨g3, 0, none⟩) (N.length + 1) cap3) g x cv := by
  subst hH
  refine ⟨(hg.block P (lt_of_obj h.obj) (fun e => ?_)).trans h.obj, h.pr.name ho hg (ha.imp (fun e => e.symm) (fun e => congrArg some e)) (Nat.le_refl _), (hg.block g h.so.lt (fun e => h.g4 e.symm)).trans h.so, h.g1, h.g2, h.g3, ?_, fun k h1 h2 => (hg.block k (Nat.lt_of_lt_of_le h2 h.kH) (fun e => by have := h.kp k e.symm; omega)).trans (h.kold k h1 h2), Nat.le_trans h.kH hg.size, h.ks, fun k hk => ?_, h.kP⟩
  · have := (h.pr.names.lt _ e.symm).1; omega
  · intro e
    have e' : g3 = g := Option.some.inj e
    subst e'
    rcases ha with e | e
    · exact h.g4 e
    · have := h.so.lt; omega
  · have hk' : g3 = k := Option.some.inj hk
    subst hk'
    rcases ha with e | e
    · exact h.kp _ e
    · have := h.kH; omega
theorem PNc.seg {L H : Nat} {Z : World} {w W W2 : World} {P : Nat} {gs : List Nat} {cvs : List Value} {S : List Seg} {N : List Bs} {o : Array Value} {sv pv : Value} {g : Nat} {x : Seg} {cv : Value} (h : PNc L H Z w W P gs cvs S N o sv pv g x cv) {g3 cap3 J : Nat}
    (ho : W2.ownsRow (P + 1) 96 1 (.slice (some ⟨g3, 0, none⟩) (gs.length + 1) cap3) (gs.length + 1) (ptrs gs ++ [.pointer (some ⟨g, 0, none⟩)])) (hg : W.grownBy W2 sv.ownBlock) (ha : sv.ownBlock = some g3 ∨ g3 = J) (hH : W.heap.size = J) :
    W2.heap[P]? = some (.cells o 79 (0, 0)) ∧ PRc w W2 P (gs ++ [g]) (cvs ++ [cv]) (S ++ [x]) N (.slice (some ⟨g3, 0, none⟩) (gs.length + 1) cap3) pv ∧ (∀ k, L ≤ k → k < H → W2.heap[k]? = Z.heap[k]?) := by
  subst hH
  refine ⟨(hg.block P (lt_of_obj h.obj) (fun e => ?_)).trans h.obj, h.pr.seg h.so h.g1 h.g2 h.g3 h.g4 ho hg (ha.imp (fun e => e.symm) (fun e => congrArg some e)) (Nat.le_refl _), fun k h1 h2 => (hg.block k (Nat.lt_of_lt_of_le h2 h.kH) (fun e => by have := h.ks k e.symm; omega)).trans (h.kold k h1 h2)⟩
  have := (h.pr.segs.lt _ e.symm).1; omega
theorem PNc.so_keep {L H : Nat} {Z : World} {w W W2 : World} {P : Nat} {gs : List Nat} {cvs : List Value} {S : List Seg} {N : List Bs} {o : Array Value} {sv pv : Value} {g : Nat} {x : Seg} {cv : Value} (h : PNc L H Z w W P gs cvs S N o sv pv g x cv) (hg : W.grownBy W2 sv.ownBlock) : SegObj W2 g x cv :=
  (hg.block g h.so.lt (fun e => h.g3 e.symm)).trans h.so
theorem PNc.cells {L H : Nat} {Z : World} {w W : World} {P : Nat} {gs : List Nat} {cvs : List Value} {S : List Seg} {N : List Bs} {st pl : Nat} {sa pa sv pv : Value} {g : Nat} {x : Seg} {cv : Value} (h : PNc L H Z w W P gs cvs S N #[sa, pa, .int .i64 (st : Nat), .int .i64 (pl : Nat)] sv pv g x cv) :
    W.cell? ⟨P, 0, none⟩ = some sa ∧ W.cell? ⟨P, 1, none⟩ = some pa ∧ W.cell? ⟨g, 2, none⟩ = some (.string (bs x.name)) :=
  ⟨obj_cell h.obj rfl, obj_cell h.obj rfl, h.so.cell 2 _ rfl⟩
/-- The two stores into the parser's block. -/
theorem psc_stored {w W : World} {P : Nat} {gs : List Nat} {cvs : List Value} {S : List Seg} {N : List Bs} {a b : Value} {st pl : Nat} {sv pv : Value} (h : W.heap[P]? = some (.cells #[a, b, .int .i64 (st : Nat), .int .i64 (pl : Nat)] 79 (0, 0)) ∧ PRc w W P gs cvs S N sv pv) :
    PSc w ((W.setCell ⟨P, 1, none⟩ pv).setCell ⟨P, 0, none⟩ sv) P gs cvs S N st pl sv pv :=
  ⟨obj_set (i := 0) sv (obj_set (i := 1) pv h.1), (h.2.setP 1 pv).setP 0 sv⟩
theorem psc_stored0 {w W : World} {P : Nat} {gs : List Nat} {cvs : List Value} {S : List Seg} {N : List Bs} {a : Value} {st pl : Nat} {sv pv : Value} (h : W.heap[P]? = some (.cells #[a, pv, .int .i64 (st : Nat), .int .i64 (pl : Nat)] 79 (0, 0)) ∧ PRc w W P gs cvs S N sv pv) :
    PSc w (W.setCell ⟨P, 0, none⟩ sv) P gs cvs S N st pl sv pv :=
  ⟨obj_set (i := 0) sv h.1, h.2.setP 0 sv⟩

/-- The state in the middle of a round: the part is in the rows, the pattern is not yet cut. -/
structure PHc (w : World) (s p : ByteArray) (T : List Seg) (U : List Bs) (r : ByteArray) (wr : World) (fuel st pl : Nat) (q : Bs) (gs : List Nat) (cvs : List Value) (S : List Seg) (N : List Bs) (sv pv : Value) : Prop where
  q1 : 1 ≤ q.length
  q2 : q.length ≤ r.size
  fsz : r.size ≤ fuel + 1
  ps : PSc w wr w.heap.size gs cvs S N st pl sv pv
  go : parseGo fuel (r.data.toList.drop q.length) st pl S N = some (T, U)
  fresh : Fresh s.size S
  st1 : st + r.size ≤ s.size + 1
  pl1 : pl + r.size ≤ s.size + 1
  segs : S.length + r.size ≤ s.size + 1
  nms : N.length + r.size ≤ s.size + 1
  any : 0 < S.length
  inf : Inf w.heap.size wr gs cvs S
  at3 : q.length < r.size → r.data.toList.drop q.length = p.data.toList ∧ ∀ x ∈ S, x.isParam = false

set_option maxHeartbeats 4000000 in
set_option maxRecDepth 100000 in
theorem parse_con (s p : ByteArray) (w : World) (hs : s.size ≤ 1000000) (h0 : 0 < s.size) (hs1 : paramPos s.data.toList = some 1) (hsd : s.data.toList.drop 1 = p.data.toList) (hp0 : paramPos p.data.toList = some 0) (hpe : paramEnd p.data.toList + 1 = p.size)
    (a z : Nat) (hst : stOf p.data.toList = some a) (hen : enOf p.data.toList = some z) (haz : a + 1 ≤ z) (hhead : p.data.toList.head? = some 58)
    (c : Bs) (hsp : splitNE ((p.data.toList.drop (a + 1)).take (z - (a + 1))) 59 = [c]) (con : Con) (hone : OneOf c con)
    (T M : List Seg) (U N : List Bs) (hgo : parseGo s.data.toList.length s.data.toList 0 0 [] [] = some (T, U)) (hmeta : metaFwd (cmpBack (markLast T)).1 = some M) (hUN : U = N) (h30 : U.length ≤ 30) :
    Calls Tryz.prog 43 #[.string s] w (ParsedC w T M N) := by
  have hBw : 0 ≤ w.heap.size := Nat.zero_le _
  have HS1 := Lib.hid hs1
  have HSD := Lib.hid hsd
  have HP0 := Lib.hid hp0
  have HPE := Lib.hid hpe
  have HST := Lib.hid hst
  have HEN := Lib.hid hen
  have HHEAD := Lib.hid hhead
  have HSPL := Lib.hid hsp
  have HONE := Lib.hid hone
  clear hs1 hsd hp0 hpe hst hen hhead hsp hone
  obtain ⟨w0, hw0⟩ : ∃ w0, w0 = w.alloc (Obj.cells #[Value.slice none 0 0, Value.slice none 0 0, Value.int IntKind.i64 0, Value.int IntKind.i64 0] 79) := ⟨_, rfl⟩
  have HGO := Lib.hid hgo
  have HMETA := Lib.hid hmeta
  have HUN := Lib.hid hUN
  clear hgo hmeta hUN
  go_enter Tryz.func43, Tryz.ntmps43
  go_upto_block 0 with fail
  rw [← hw0]
  have hP : w0.heap.size = w.heap.size + 1 := by rw [hw0]; simp
  have HW0 := Lib.hid hw0
  clear hw0
  rw [← hP]
  have HP := Lib.hid hP
  have hwp : w.heap.size < w0.heap.size := by omega
  clear hP
  go_cut [0, 5, 6, 7, 8, 9, 10] from 12 to 62 (fun _ _ _ _ _ _ _ wx => ∃ st pl gs cvs sv pv, PSc w0 wx w0.heap.size gs cvs T U st pl sv pv ∧ Fresh s.size T ∧ T.length ≤ s.size ∧ 0 < T.length ∧ Inf w0.heap.size wx gs cvs T)
  case first =>
    go_wp2_with fail
    go_loopw [0] (fun a wr => ∃ (r : ByteArray) (fu st pl : Nat) (gs : List Nat) (cvs : List Value) (S : List Seg) (Nm : List Bs) (sv pv : Value), a = .string r ∧ PLc w0 s p T U r wr fu st pl gs cvs S Nm sv pv) (fun a _ => strSize a)
    case atStart =>
      refine ⟨s, s.size, 0, 0, [], [], [], [], .slice none 0 0, .slice none 0 0, rfl, Nat.le_refl _, Nat.le_refl _, ⟨?_, ?_⟩, ?_, .inl rfl, by simp, by intro x hx; simp at hx, by omega, by omega, by simp, by simp, by omega⟩
      · show (w0.heap.push _)[w0.heap.size]? = _
        simp
      · exact ⟨World.ownsRow_nil _ _ _ _, World.ownsRow_nil _ _ _ _, by intro k h; simp [Value.ownBlock] at h, ⟨rfl, rfl, by intro i x hx; simp at hx⟩, List.nodup_nil, by simp, (Below.refl _ _).alloc (Nat.le_refl _) _, Nat.le_refl _⟩
      · have := HGO.out; rw [size_data] at this; exact this
    case round =>
      obtain ⟨r, fu, st, pl, gs, cvs, S, Nm, sv, pv, rfl, hpl⟩ := hrel
      have HPL := Lib.hid hpl
      clear hpl
      have hrs : r.size ≤ s.size := HPL.out.size
      by_cases hr : r.size = 0
      · have hfin : (S, Nm) = (T, U) := by
          have h1 : r.data.toList = [] := List.length_eq_zero_iff.1 (by rw [size_data]; exact hr)
          have h2 := HPL.out.go
          rw [h1, go_step_end] at h2
          exact Option.some.inj h2
        have HF := Lib.hid hfin
        clear hfin
        go_wp2_with fail
        go_meet
        case rel =>
          have h1 := HF.out
          cases h1
          exact ⟨st, pl, gs, cvs, sv, pv, HPL.out.ps, HPL.out.fresh, by have := HPL.out.segs; omega, HPL.out.any (by omega), inf_const HPL.out.nop⟩
      · have hr1 : 0 < r.size := by omega
        clear hr
        have hfu : fu = (fu - 1) + 1 := by have := HPL.out.fsz; omega
        obtain ⟨fv, hfv⟩ : ∃ fv, fv = fu - 1 := ⟨_, rfl⟩
        have HFV := Lib.hid (show fu = fv + 1 by omega)
        clear hfu hfv
        go_wp2_with fail
        refine (paramPos_any r _ (by omega)).mono ?_
        rintro e w1 ⟨rfl, hb1⟩
        have HB1 := Lib.hid hb1
        clear hb1
        go_upto_if 19 with fail
        go_cut [5, 6, 7, 8, 9, 10, 17, 18, 19] from 20 to 53 (fun v _ _ _ _ _ _ _ _ wx => ∃ q x st' pl' Nm' gs' cvs' sv' pv', v = .string (bs q) ∧ PHc w0 s p T U r wx fv st' pl' q gs' cvs' (S ++ [x]) Nm' sv' pv')
        case first =>
          by_cases hp : paramPos r.data.toList = some 0
          · have HPP := Lib.hid hp
            clear hp
            rw [HPP.out, oi_some]
            have hb1 := HB1.out
            have hPo := (hb1.block _ (lt_of_obj HPL.out.ps.1)).trans HPL.out.ps.1
            have hst := HPL.out.st1
            have hpl1 := HPL.out.pl1
            have hrp : p = r := by
              rcases HPL.out.at2 with h | h
              · have h1 := HPP.out
                rw [h, HS1.out] at h1
                cases h1
              · exact bytes_ext.2 h.symm
            subst hrp
            obtain ⟨q, x, st', pl', hpp⟩ : ∃ q x st' pl', (q, x, st', pl') = partOf p.data.toList st pl (unesc (trimmed (p.data.toList.take a))) [con] := ⟨_, _, _, _, rfl⟩
            have hcall := part_con p w0.heap.size st pl sv pv w1 (by omega) hr1 hPo a z HST.out HEN.out haz HHEAD.out c HSPL.out con HONE.out
            rw [← hpp] at hcall
            have HPART := Lib.hid (show paramPart p.data.toList st pl = some (q, x, st', pl') by rw [hpp]; exact paramPart_con HST.out HEN.out haz HSPL.out HONE.out)
            have HCALL := Lib.hid hcall
            clear hcall hPo
            go_wp2_with fail
            refine HCALL.out.mono ?_
            rintro e w2 ⟨g, cv, rfl, hg, ho, hgr, hob, hcon⟩
            have hpf := partOf_facts p.data.toList st pl (unesc (trimmed (p.data.toList.take a))) [con]
            rw [← hpp] at hpf
            simp only at hpf
            have HPP2 := Lib.hid hpp
            have HF := Lib.hid hpf
            have hold := HPL.out.ps.2
            have hpn : PNc w1.heap.size w2.heap.size w2 w0 w2 w0.heap.size gs cvs S Nm #[sv, pv, .int .i64 (st' : Nat), .int .i64 (pl' : Nat)] sv pv g x cv := by
              have hw1 := hb1.size
              have hPl := lt_of_obj HPL.out.ps.1
              exact ⟨hob, (hold.below hb1).own hgr, ho, fun hm => by have := hold.inn.lt hm; omega, by omega, fun e => by have := (hold.segs.lt _ e).2; omega, fun e => by have := (hold.names.lt _ e).2; omega, fun _ _ _ => rfl, Nat.le_refl _, fun k hk => .inl (by have := (hold.segs.lt _ hk).2; omega), fun k hk => .inl (by have := (hold.names.lt _ hk).2; omega), by omega⟩
            have hNm := HPL.out.nms
            have hSs := HPL.out.segs
            have hgl : gs.length = S.length := hold.inn.1
            have hgs1 : gs.length ≤ 1000000 := by omega
            have hNm1 : Nm.length ≤ 1000000 := by omega
            have hbase : w0.heap.size + 1 ≤ w2.heap.size := lt_of_obj hob
            have hrow := fun k (e : pv.ownBlock = some k) => (hpn.pr.names.lt k e).2
            have HROW := Lib.hid hrow
            have HPN := Lib.hid hpn
            have HPD := Lib.hid (hpn.below (Below.refl _ _).drew)
            have c0 := obj_cell (i := 0) hob rfl
            have c1 := obj_cell (i := 1) hob rfl
            have f0 := obj_free (i := 0) hob
            have f1 := obj_free (i := 1) hob
            have cn := ho.cell 2 _ rfl
            have a0 : ∀ o, (w2.alloc o).cell? ⟨w0.heap.size, 0, none⟩ = some sv := fun o => obj_cell (HPN.out.alloc o).obj rfl
            have a1 : ∀ o, (w2.alloc o).cell? ⟨w0.heap.size, 1, none⟩ = some pv := fun o => obj_cell (HPN.out.alloc o).obj rfl
            have an : ∀ o, (w2.alloc o).cell? ⟨g, 2, none⟩ = some (.string (bs x.name)) := fun o => (HPN.out.alloc o).so.cell 2 _ rfl
            have b0 : ∀ o o', ((w2.alloc o).alloc o').cell? ⟨w0.heap.size, 0, none⟩ = some sv := fun o o' => obj_cell ((HPN.out.alloc o).alloc o').obj rfl
            have b1 : ∀ o o', ((w2.alloc o).alloc o').cell? ⟨w0.heap.size, 1, none⟩ = some pv := fun o o' => obj_cell ((HPN.out.alloc o).alloc o').obj rfl
            have bn : ∀ o o', ((w2.alloc o).alloc o').cell? ⟨g, 2, none⟩ = some (.string (bs x.name)) := fun o o' => ((HPN.out.alloc o).alloc o').so.cell 2 _ rfl
            obtain ⟨i9, hi9, hz90, hz91, hz92⟩ := info_parts info9
            obtain ⟨i96, hi96, hz960, hz961, hz962⟩ := info_parts info96
            have HCO := Lib.hid hcon
            have HGS := Lib.hid (show ∀ g' ∈ gs, g' < w1.heap.size from fun g' hm => by have := hold.inn.lt hm; have := hb1.size; omega)
            have HGC := Lib.hid (show gs.length = S.length ∧ cvs.length = S.length from ⟨hold.inn.1, hold.inn.2.1⟩)
            have HPW := Lib.hid (show w0.heap.size < w1.heap.size by have := lt_of_obj HPL.out.ps.1; have := hb1.size; omega)
            clear hpn hob hcon hpp hpf HCALL ho hgr hg hgl hNm hSs hb1 hold hrow
            go_upto_region 8 with fail
            refine wp_region_any (by kernel_rfl) ?_
            refine AnyN.plain (S := fun v => v.cell? ⟨w0.heap.size, 0, none⟩ = some sv ∧ v.cell? ⟨w0.heap.size, 1, none⟩ = some pv ∧ v.cell? ⟨g, 2, none⟩ = some (.string (bs x.name))) (need := fun j => j == 1 || j == 5 || j == 6 || j == 7 || j == 9 || j == 11 || j == 12) _ _ _ _ ?_
            change AnyN _ _ _ _ _ _ _ _ _ (World.drew w2)
            refine AnyN.take (i := 0) (x := .pointer (some ⟨w0.heap.size, 1, none⟩)) rfl (by kernel_rfl) (by kernel_rfl) (by kernel_rfl) rfl (fun _ _ _ h => h) (Or.inl ⟨by rfl, fun v => by go_simp⟩) ?_
            try simp only [List.getElem_toArray, List.getElem_cons_zero, Act.put, List.setIfInBounds_toArray, List.set_cons_zero, List.set_cons_succ]
            refine AnyN.take (i := 2) (x := .pointer (some ⟨g, 0, none⟩)) rfl (by kernel_rfl) (by kernel_rfl) (by kernel_rfl) rfl (fun _ _ _ h => h) (Or.inl ⟨by rfl, fun v => by go_simp⟩) ?_
            try simp only [List.getElem_toArray, List.getElem_cons_zero, List.getElem_cons_succ, Act.put, List.setIfInBounds_toArray, List.set_cons_zero, List.set_cons_succ]
            refine AnyN.take (i := 3) (x := .pointer (some ⟨g, 0, none⟩)) rfl (by kernel_rfl) (by kernel_rfl) (by kernel_rfl) rfl (fun _ _ _ h => h) (Or.inl ⟨by rfl, fun v => by go_simp⟩) ?_
            try simp only [List.getElem_toArray, List.getElem_cons_zero, List.getElem_cons_succ, Act.put, List.setIfInBounds_toArray, List.set_cons_zero, List.set_cons_succ]
            refine AnyN.take (i := 4) (x := .pointer (some ⟨g, 2, none⟩)) rfl (by kernel_rfl) (by kernel_rfl) (by kernel_rfl) rfl (fun _ _ _ h => h) (Or.inl ⟨by rfl, fun v => by go_simp⟩) ?_
            try simp only [List.getElem_toArray, List.getElem_cons_zero, List.getElem_cons_succ, Act.put, List.setIfInBounds_toArray, List.set_cons_zero, List.set_cons_succ]
            refine AnyN.take (i := 8) (x := .pointer (some ⟨w0.heap.size, 0, none⟩)) rfl (by kernel_rfl) (by kernel_rfl) (by kernel_rfl) rfl (fun _ _ _ h => h) (Or.inl ⟨by rfl, fun v => by go_simp⟩) ?_
            try simp only [List.getElem_toArray, List.getElem_cons_zero, List.getElem_cons_succ, Act.put, List.setIfInBounds_toArray, List.set_cons_zero, List.set_cons_succ]
            refine AnyN.take (i := 10) (x := .pointer (some ⟨g, 0, none⟩)) rfl (by kernel_rfl) (by kernel_rfl) (by kernel_rfl) rfl (fun _ _ _ h => h) (Or.inl ⟨by rfl, fun v => by go_simp⟩) ?_
            try simp only [List.getElem_toArray, List.getElem_cons_zero, List.getElem_cons_succ, Act.put, List.setIfInBounds_toArray, List.set_cons_zero, List.set_cons_succ]
            refine AnyN.take (i := 13) (x := .string (bs q)) rfl (by kernel_rfl) (by kernel_rfl) (by kernel_rfl) rfl (fun _ _ _ h => h) (Or.inl ⟨by rfl, fun v => by go_simp⟩) ?_
            try simp only [List.getElem_toArray, List.getElem_cons_zero, List.getElem_cons_succ, Act.put, List.setIfInBounds_toArray, List.set_cons_zero, List.set_cons_succ]
            refine AnyN.load (i := 1) (x := pv) rfl (by kernel_rfl) (by kernel_rfl) (by kernel_rfl) (by kernel_rfl) (fun _ _ _ h => h) (Or.inl ⟨by rfl, fun v hv => by obtain ⟨v0, v1, v2⟩ := hv; go_simp⟩) HPD.out.cells ?_
            try simp only [List.getElem_toArray, List.getElem_cons_zero, List.getElem_cons_succ, Act.put, List.setIfInBounds_toArray, List.set_cons_zero, List.set_cons_succ]
            refine AnyN.load (i := 5) (x := .string (bs x.name)) rfl (by kernel_rfl) (by kernel_rfl) (by kernel_rfl) (by kernel_rfl) (fun _ _ _ h => h) (Or.inl ⟨by rfl, fun v hv => by obtain ⟨v0, v1, v2⟩ := hv; go_simp⟩) HPD.out.cells ?_
            try simp only [List.getElem_toArray, List.getElem_cons_zero, List.getElem_cons_succ, Act.put, List.setIfInBounds_toArray, List.set_cons_zero, List.set_cons_succ]
            refine AnyN.load (i := 9) (x := sv) rfl (by kernel_rfl) (by kernel_rfl) (by kernel_rfl) (by kernel_rfl) (fun _ _ _ h => h) (Or.inl ⟨by rfl, fun v hv => by obtain ⟨v0, v1, v2⟩ := hv; go_simp⟩) HPD.out.cells ?_
            try simp only [List.getElem_toArray, List.getElem_cons_zero, List.getElem_cons_succ, Act.put, List.setIfInBounds_toArray, List.set_cons_zero, List.set_cons_succ]
            refine AnyN.all (rs := [6, 11]) (by kernel_rfl) (by simp) (two_of ?_ ?_)
            · skip
              refine op_via rfl rfl (fun K hK => ?_)
              try simp only [List.getElem_toArray, List.getElem_cons_zero, List.getElem_cons_succ]
              go_simp
              refine hK _ _ ⟨fun _ => PNc.cells (by first | exact HPD.out.alloc _ | exact (HPD.out.alloc _).alloc _ | exact HN3.out.alloc _), ?_⟩
              clear hK K
              try simp only [List.getElem_toArray, List.getElem_cons_zero, List.getElem_cons_succ, Act.put, List.setIfInBounds_toArray, List.set_cons_zero, List.set_cons_succ]
              refine AnyN.all (rs := [7, 11]) (by kernel_rfl) (by simp) (two_of ?_ ?_)
              · skip
                refine op_via rfl rfl (fun K hK => ?_)
                refine wp_append_lies _ (.tmp 26) (.tmp 31) 22 rfl (w0.heap.size + 1) 9 i9 (.string ⟨#[]⟩) 1 16 Tryz.underlying22 hi9 hz90 hz91 hz92 rfl (by decide) pv Nm.length (svals Nm) (by rfl) (by first | exact (HPD.out.alloc _).pr.names | exact ((HPD.out.alloc _).alloc _).pr.names) ⟨_, 0, none⟩ 1 1 [.string (bs x.name)] (by rfl) rfl (by intro j u hu; obtain ⟨rfl, rfl⟩ := one_at hu; rw [add_cell, Nat.zero_add]; simp [cell_alloc, objCell]) (svals_one [x.name]) (by omega) (by simp [maxLen]; omega) (by omega) (by have := hbase; simp; omega) _ (by rfl) ?_
                intro g3 cap3 w3 hown3 hgrow3 hat3 hlt3
                have hpn3 := PNc.name (by first | exact HPD.out.alloc _ | exact (HPD.out.alloc _).alloc _) hown3 hgrow3 hat3 rfl
                have HN3 := Lib.hid hpn3
                have HGR := Lib.hid hgrow3
                refine hK _ _ ⟨fun _ => hpn3.cells, ?_⟩
                clear hK K hpn3 hown3 hgrow3 hat3
                try simp only [List.getElem_toArray, List.getElem_cons_zero, List.getElem_cons_succ, Act.put, List.setIfInBounds_toArray, List.set_cons_zero, List.set_cons_succ]
                refine AnyN.all (rs := [11]) (by kernel_rfl) (by simp) (one_of ?_)
                refine op_via rfl rfl (fun K hK => ?_)
                try simp only [List.getElem_toArray, List.getElem_cons_zero, List.getElem_cons_succ]
                go_simp
                refine hK _ _ ⟨fun _ => PNc.cells (by first | exact HPD.out.alloc _ | exact (HPD.out.alloc _).alloc _ | exact HN3.out.alloc _), ?_⟩
                clear hK K
                try simp only [List.getElem_toArray, List.getElem_cons_zero, List.getElem_cons_succ, Act.put, List.setIfInBounds_toArray, List.set_cons_zero, List.set_cons_succ]
                refine AnyN.all (rs := [12]) (by kernel_rfl) (by simp) (one_of ?_)
                refine op_via rfl rfl (fun K hK => ?_)
                refine wp_append_lies _ (.tmp 34) (.tmp 36) 77 rfl (w0.heap.size + 1) 96 i96 (.pointer none) 1 8 Tryz.underlying77 hi96 hz960 hz961 hz962 rfl (by decide) sv gs.length (ptrs gs) (by rfl) (by first | exact HN3.out.pr.segs | exact (HN3.out.alloc _).pr.segs) ⟨_, 0, none⟩ 1 1 [.pointer (some ⟨g, 0, none⟩)] (by rfl) rfl (by intro j u hu; obtain ⟨rfl, rfl⟩ := one_at hu; rw [add_cell, Nat.zero_add]; first | (simp [cell_alloc, objCell]; done) | (refine (HGR.out.cell_far _ (by simp <;> omega) (fun e => absurd (HROW.out _ e.symm) (by simp <;> omega))).trans (by simp [cell_alloc, objCell]))) (ptrs_one [g]) (by omega) (by simp [maxLen]; omega) (by omega) (by have := lt_of_obj HN3.out.obj; simp; omega) _ (by rfl) ?_
                intro g4 cap4 w4 hown4 hgrow4 hat4 hlt4
                have hps4 := PNc.seg (by first | exact HN3.out | exact HN3.out.alloc _) hown4 hgrow4 hat4 rfl
                have hcn4 := (PNc.so_keep (by first | exact HN3.out | exact HN3.out.alloc _) hgrow4).cell 2 _ rfl
                have c0'' := obj_cell (i := 0) hps4.1 rfl
                have c1'' := obj_cell (i := 1) hps4.1 rfl
                have f0'' := obj_free (i := 0) hps4.1
                have f1'' := obj_free (i := 1) hps4.1
                have HP4 := Lib.hid hps4
                refine hK _ _ ⟨fun _ => ⟨c0'', c1'', hcn4⟩, ?_⟩
                clear hK K hps4 hown4 hgrow4 hat4 hcn4
                try simp only [List.getElem_toArray, List.getElem_cons_zero, List.getElem_cons_succ, Act.put, List.setIfInBounds_toArray, List.set_cons_zero, List.set_cons_succ]
                refine AnyN.all (rs := [14]) (by kernel_rfl) (by simp) (one_of ?_)
                refine op_via rfl rfl (fun K hK => ?_)
                try simp only [List.getElem_toArray, List.getElem_cons_zero, List.getElem_cons_succ]
                go_simp
                refine hK _ _ ⟨fun h => absurd h (by decide), ?_⟩
                clear hK K
                try simp only [List.getElem_toArray, List.getElem_cons_zero, List.getElem_cons_succ, Act.put, List.setIfInBounds_toArray, List.set_cons_zero, List.set_cons_succ]
                refine AnyN.all (rs := [15]) (by kernel_rfl) (by simp) (one_of ?_)
                refine op_via rfl rfl (fun K hK => ?_)
                try simp only [List.getElem_toArray, List.getElem_cons_zero, List.getElem_cons_succ]
                go_simp
                refine hK _ _ ⟨fun h => absurd h (by decide), ?_⟩
                clear hK K
                try simp only [List.getElem_toArray, List.getElem_cons_zero, List.getElem_cons_succ, Act.put, List.setIfInBounds_toArray, List.set_cons_zero, List.set_cons_succ]
                refine AnyN.all (rs := [16]) (by kernel_rfl) (by simp) (one_of ?_)
                refine op_via rfl rfl (fun K hK => ?_)
                try simp only [List.getElem_toArray, List.getElem_cons_zero, List.getElem_cons_succ]
                go_simp
                refine hK _ _ ⟨fun h => absurd h (by decide), ?_⟩
                clear hK K
                try simp only [List.getElem_toArray, List.getElem_cons_zero, List.getElem_cons_succ, Act.put, List.setIfInBounds_toArray, List.set_cons_zero, List.set_cons_succ]
                refine AnyN.all (rs := [17]) (by kernel_rfl) (by simp) (one_of ?_)
                refine op_via rfl rfl (fun K hK => ?_)
                try simp only [List.getElem_toArray, List.getElem_cons_zero, List.getElem_cons_succ]
                go_simp
                refine hK _ _ ⟨fun h => absurd h (by decide), ?_⟩
                clear hK K
                try simp only [List.getElem_toArray, List.getElem_cons_zero, List.getElem_cons_succ, Act.put, List.setIfInBounds_toArray, List.set_cons_zero, List.set_cons_succ]
                refine AnyN.all (rs := [18]) (by kernel_rfl) (by simp) (one_of ?_)
                refine op_via rfl rfl (fun K hK => ?_)
                try simp only [List.getElem_toArray, List.getElem_cons_zero, List.getElem_cons_succ]
                go_simp
                refine hK _ _ ⟨fun h => absurd h (by decide), ?_⟩
                clear hK K
                try simp only [List.getElem_toArray, List.getElem_cons_zero, List.getElem_cons_succ, Act.put, List.setIfInBounds_toArray, List.set_cons_zero, List.set_cons_succ]
                refine AnyN.fin (by kernel_rfl) ?_ _
                go_wp2_with fail
                go_meet
                case rel =>
                  refine ⟨q, x, st', pl', Nm ++ [x.name], gs ++ [g], cvs ++ [cv], .slice (some ⟨g4, 0, none⟩) (gs.length + 1) cap4, .slice (some ⟨g3, 0, none⟩) (Nm.length + 1) cap3, rfl, ?_⟩
                  have h1 := HPL.out.go
                  rw [HFV.out, step_param2 HPP.out HPART.out (by intro e; have := size_data p; rw [e] at this; simp at this; omega)] at h1
                  have hq : q = p.data.toList.take (paramEnd p.data.toList + 1) := by have := congrArg Prod.fst HPP2.out; exact this
                  have hq1 : 1 ≤ q.length := by rw [hq, List.length_take, size_data]; omega
                  have hq2 : q.length ≤ p.size := by rw [hq, List.length_take, size_data]; omega
                  have hf := HF.out
                  exact ⟨hq1, hq2, by have := HPL.out.fsz; have := HFV.out; omega, psc_stored ⟨HP4.out.1, HP4.out.2.1⟩, h1, HPL.out.fresh.snoc (by rw [hf.1]; simp) hf.2.1 hf.2.2.1, by have := HPL.out.st1; omega, by have := HPL.out.pl1; omega, by have := HPL.out.segs; simp; omega, by have := HPL.out.nms; simp; omega, by simp, inf_snoc HPL.out.nop HGC.out.1 HGC.out.2 HGS.out HCO.out HPW.out (fun k h1 h2 => (Below.heap_setCell _ ⟨w0.heap.size, 0, none⟩ _ k (by have := HPW.out; show k ≠ w0.heap.size; omega)).trans ((Below.heap_setCell _ ⟨w0.heap.size, 1, none⟩ _ k (by have := HPW.out; show k ≠ w0.heap.size; omega)).trans (HP4.out.2.2 k h1 h2))), fun h => absurd h (by rw [hq, List.length_take, size_data, HPE.out]; omega)⟩
              · skip
                refine op_via rfl rfl (fun K hK => ?_)
                try simp only [List.getElem_toArray, List.getElem_cons_zero, List.getElem_cons_succ]
                go_simp
                refine hK _ _ ⟨fun _ => PNc.cells (by first | exact HPD.out.alloc _ | exact (HPD.out.alloc _).alloc _ | exact HN3.out.alloc _), ?_⟩
                clear hK K
                try simp only [List.getElem_toArray, List.getElem_cons_zero, List.getElem_cons_succ, Act.put, List.setIfInBounds_toArray, List.set_cons_zero, List.set_cons_succ]
                refine AnyN.all (rs := [7]) (by kernel_rfl) (by simp) (one_of ?_)
                refine op_via rfl rfl (fun K hK => ?_)
                refine wp_append_lies _ (.tmp 26) (.tmp 31) 22 rfl (w0.heap.size + 1) 9 i9 (.string ⟨#[]⟩) 1 16 Tryz.underlying22 hi9 hz90 hz91 hz92 rfl (by decide) pv Nm.length (svals Nm) (by rfl) (by first | exact (HPD.out.alloc _).pr.names | exact ((HPD.out.alloc _).alloc _).pr.names) ⟨_, 0, none⟩ 1 1 [.string (bs x.name)] (by rfl) rfl (by intro j u hu; obtain ⟨rfl, rfl⟩ := one_at hu; rw [add_cell, Nat.zero_add]; simp [cell_alloc, objCell]) (svals_one [x.name]) (by omega) (by simp [maxLen]; omega) (by omega) (by have := hbase; simp; omega) _ (by rfl) ?_
                intro g3 cap3 w3 hown3 hgrow3 hat3 hlt3
                have hpn3 := PNc.name (by first | exact HPD.out.alloc _ | exact (HPD.out.alloc _).alloc _) hown3 hgrow3 hat3 rfl
                have HN3 := Lib.hid hpn3
                have HGR := Lib.hid hgrow3
                refine hK _ _ ⟨fun _ => hpn3.cells, ?_⟩
                clear hK K hpn3 hown3 hgrow3 hat3
                try simp only [List.getElem_toArray, List.getElem_cons_zero, List.getElem_cons_succ, Act.put, List.setIfInBounds_toArray, List.set_cons_zero, List.set_cons_succ]
                refine AnyN.all (rs := [12]) (by kernel_rfl) (by simp) (one_of ?_)
                refine op_via rfl rfl (fun K hK => ?_)
                refine wp_append_lies _ (.tmp 34) (.tmp 36) 77 rfl (w0.heap.size + 1) 96 i96 (.pointer none) 1 8 Tryz.underlying77 hi96 hz960 hz961 hz962 rfl (by decide) sv gs.length (ptrs gs) (by rfl) (by first | exact HN3.out.pr.segs | exact (HN3.out.alloc _).pr.segs) ⟨_, 0, none⟩ 1 1 [.pointer (some ⟨g, 0, none⟩)] (by rfl) rfl (by intro j u hu; obtain ⟨rfl, rfl⟩ := one_at hu; rw [add_cell, Nat.zero_add]; first | (simp [cell_alloc, objCell]; done) | (refine (HGR.out.cell_far _ (by simp <;> omega) (fun e => absurd (HROW.out _ e.symm) (by simp <;> omega))).trans (by simp [cell_alloc, objCell]))) (ptrs_one [g]) (by omega) (by simp [maxLen]; omega) (by omega) (by have := lt_of_obj HN3.out.obj; simp; omega) _ (by rfl) ?_
                intro g4 cap4 w4 hown4 hgrow4 hat4 hlt4
                have hps4 := PNc.seg (by first | exact HN3.out | exact HN3.out.alloc _) hown4 hgrow4 hat4 rfl
                have hcn4 := (PNc.so_keep (by first | exact HN3.out | exact HN3.out.alloc _) hgrow4).cell 2 _ rfl
                have c0'' := obj_cell (i := 0) hps4.1 rfl
                have c1'' := obj_cell (i := 1) hps4.1 rfl
                have f0'' := obj_free (i := 0) hps4.1
                have f1'' := obj_free (i := 1) hps4.1
                have HP4 := Lib.hid hps4
                refine hK _ _ ⟨fun _ => ⟨c0'', c1'', hcn4⟩, ?_⟩
                clear hK K hps4 hown4 hgrow4 hat4 hcn4
                try simp only [List.getElem_toArray, List.getElem_cons_zero, List.getElem_cons_succ, Act.put, List.setIfInBounds_toArray, List.set_cons_zero, List.set_cons_succ]
                refine AnyN.all (rs := [14]) (by kernel_rfl) (by simp) (one_of ?_)
                refine op_via rfl rfl (fun K hK => ?_)
                try simp only [List.getElem_toArray, List.getElem_cons_zero, List.getElem_cons_succ]
                go_simp
                refine hK _ _ ⟨fun h => absurd h (by decide), ?_⟩
                clear hK K
                try simp only [List.getElem_toArray, List.getElem_cons_zero, List.getElem_cons_succ, Act.put, List.setIfInBounds_toArray, List.set_cons_zero, List.set_cons_succ]
                refine AnyN.all (rs := [15]) (by kernel_rfl) (by simp) (one_of ?_)
                refine op_via rfl rfl (fun K hK => ?_)
                try simp only [List.getElem_toArray, List.getElem_cons_zero, List.getElem_cons_succ]
                go_simp
                refine hK _ _ ⟨fun h => absurd h (by decide), ?_⟩
                clear hK K
                try simp only [List.getElem_toArray, List.getElem_cons_zero, List.getElem_cons_succ, Act.put, List.setIfInBounds_toArray, List.set_cons_zero, List.set_cons_succ]
                refine AnyN.all (rs := [16]) (by kernel_rfl) (by simp) (one_of ?_)
                refine op_via rfl rfl (fun K hK => ?_)
                try simp only [List.getElem_toArray, List.getElem_cons_zero, List.getElem_cons_succ]
                go_simp
                refine hK _ _ ⟨fun h => absurd h (by decide), ?_⟩
                clear hK K
                try simp only [List.getElem_toArray, List.getElem_cons_zero, List.getElem_cons_succ, Act.put, List.setIfInBounds_toArray, List.set_cons_zero, List.set_cons_succ]
                refine AnyN.all (rs := [17]) (by kernel_rfl) (by simp) (one_of ?_)
                refine op_via rfl rfl (fun K hK => ?_)
                try simp only [List.getElem_toArray, List.getElem_cons_zero, List.getElem_cons_succ]
                go_simp
                refine hK _ _ ⟨fun h => absurd h (by decide), ?_⟩
                clear hK K
                try simp only [List.getElem_toArray, List.getElem_cons_zero, List.getElem_cons_succ, Act.put, List.setIfInBounds_toArray, List.set_cons_zero, List.set_cons_succ]
                refine AnyN.all (rs := [18]) (by kernel_rfl) (by simp) (one_of ?_)
                refine op_via rfl rfl (fun K hK => ?_)
                try simp only [List.getElem_toArray, List.getElem_cons_zero, List.getElem_cons_succ]
                go_simp
                refine hK _ _ ⟨fun h => absurd h (by decide), ?_⟩
                clear hK K
                try simp only [List.getElem_toArray, List.getElem_cons_zero, List.getElem_cons_succ, Act.put, List.setIfInBounds_toArray, List.set_cons_zero, List.set_cons_succ]
                refine AnyN.fin (by kernel_rfl) ?_ _
                go_wp2_with fail
                go_meet
                case rel =>
                  refine ⟨q, x, st', pl', Nm ++ [x.name], gs ++ [g], cvs ++ [cv], .slice (some ⟨g4, 0, none⟩) (gs.length + 1) cap4, .slice (some ⟨g3, 0, none⟩) (Nm.length + 1) cap3, rfl, ?_⟩
                  have h1 := HPL.out.go
                  rw [HFV.out, step_param2 HPP.out HPART.out (by intro e; have := size_data p; rw [e] at this; simp at this; omega)] at h1
                  have hq : q = p.data.toList.take (paramEnd p.data.toList + 1) := by have := congrArg Prod.fst HPP2.out; exact this
                  have hq1 : 1 ≤ q.length := by rw [hq, List.length_take, size_data]; omega
                  have hq2 : q.length ≤ p.size := by rw [hq, List.length_take, size_data]; omega
                  have hf := HF.out
                  exact ⟨hq1, hq2, by have := HPL.out.fsz; have := HFV.out; omega, psc_stored ⟨HP4.out.1, HP4.out.2.1⟩, h1, HPL.out.fresh.snoc (by rw [hf.1]; simp) hf.2.1 hf.2.2.1, by have := HPL.out.st1; omega, by have := HPL.out.pl1; omega, by have := HPL.out.segs; simp; omega, by have := HPL.out.nms; simp; omega, by simp, inf_snoc HPL.out.nop HGC.out.1 HGC.out.2 HGS.out HCO.out HPW.out (fun k h1 h2 => (Below.heap_setCell _ ⟨w0.heap.size, 0, none⟩ _ k (by have := HPW.out; show k ≠ w0.heap.size; omega)).trans ((Below.heap_setCell _ ⟨w0.heap.size, 1, none⟩ _ k (by have := HPW.out; show k ≠ w0.heap.size; omega)).trans (HP4.out.2.2 k h1 h2))), fun h => absurd h (by rw [hq, List.length_take, size_data, HPE.out]; omega)⟩
            · skip
              refine op_via rfl rfl (fun K hK => ?_)
              try simp only [List.getElem_toArray, List.getElem_cons_zero, List.getElem_cons_succ]
              go_simp
              refine hK _ _ ⟨fun _ => PNc.cells (by first | exact HPD.out.alloc _ | exact (HPD.out.alloc _).alloc _ | exact HN3.out.alloc _), ?_⟩
              clear hK K
              try simp only [List.getElem_toArray, List.getElem_cons_zero, List.getElem_cons_succ, Act.put, List.setIfInBounds_toArray, List.set_cons_zero, List.set_cons_succ]
              refine AnyN.all (rs := [6]) (by kernel_rfl) (by simp) (one_of ?_)
              refine op_via rfl rfl (fun K hK => ?_)
              try simp only [List.getElem_toArray, List.getElem_cons_zero, List.getElem_cons_succ]
              go_simp
              refine hK _ _ ⟨fun _ => PNc.cells (by first | exact HPD.out.alloc _ | exact (HPD.out.alloc _).alloc _ | exact HN3.out.alloc _), ?_⟩
              clear hK K
              try simp only [List.getElem_toArray, List.getElem_cons_zero, List.getElem_cons_succ, Act.put, List.setIfInBounds_toArray, List.set_cons_zero, List.set_cons_succ]
              refine AnyN.all (rs := [7]) (by kernel_rfl) (by simp) (one_of ?_)
              refine op_via rfl rfl (fun K hK => ?_)
              refine wp_append_lies _ (.tmp 26) (.tmp 31) 22 rfl (w0.heap.size + 1) 9 i9 (.string ⟨#[]⟩) 1 16 Tryz.underlying22 hi9 hz90 hz91 hz92 rfl (by decide) pv Nm.length (svals Nm) (by rfl) (by first | exact (HPD.out.alloc _).pr.names | exact ((HPD.out.alloc _).alloc _).pr.names) ⟨_, 0, none⟩ 1 1 [.string (bs x.name)] (by rfl) rfl (by intro j u hu; obtain ⟨rfl, rfl⟩ := one_at hu; rw [add_cell, Nat.zero_add]; simp [cell_alloc, objCell]) (svals_one [x.name]) (by omega) (by simp [maxLen]; omega) (by omega) (by have := hbase; simp; omega) _ (by rfl) ?_
              intro g3 cap3 w3 hown3 hgrow3 hat3 hlt3
              have hpn3 := PNc.name (by first | exact HPD.out.alloc _ | exact (HPD.out.alloc _).alloc _) hown3 hgrow3 hat3 rfl
              have HN3 := Lib.hid hpn3
              have HGR := Lib.hid hgrow3
              refine hK _ _ ⟨fun _ => hpn3.cells, ?_⟩
              clear hK K hpn3 hown3 hgrow3 hat3
              try simp only [List.getElem_toArray, List.getElem_cons_zero, List.getElem_cons_succ, Act.put, List.setIfInBounds_toArray, List.set_cons_zero, List.set_cons_succ]
              refine AnyN.all (rs := [12]) (by kernel_rfl) (by simp) (one_of ?_)
              refine op_via rfl rfl (fun K hK => ?_)
              refine wp_append_lies _ (.tmp 34) (.tmp 36) 77 rfl (w0.heap.size + 1) 96 i96 (.pointer none) 1 8 Tryz.underlying77 hi96 hz960 hz961 hz962 rfl (by decide) sv gs.length (ptrs gs) (by rfl) (by first | exact HN3.out.pr.segs | exact (HN3.out.alloc _).pr.segs) ⟨_, 0, none⟩ 1 1 [.pointer (some ⟨g, 0, none⟩)] (by rfl) rfl (by intro j u hu; obtain ⟨rfl, rfl⟩ := one_at hu; rw [add_cell, Nat.zero_add]; first | (simp [cell_alloc, objCell]; done) | (refine (HGR.out.cell_far _ (by simp <;> omega) (fun e => absurd (HROW.out _ e.symm) (by simp <;> omega))).trans (by simp [cell_alloc, objCell]))) (ptrs_one [g]) (by omega) (by simp [maxLen]; omega) (by omega) (by have := lt_of_obj HN3.out.obj; simp; omega) _ (by rfl) ?_
              intro g4 cap4 w4 hown4 hgrow4 hat4 hlt4
              have hps4 := PNc.seg (by first | exact HN3.out | exact HN3.out.alloc _) hown4 hgrow4 hat4 rfl
              have hcn4 := (PNc.so_keep (by first | exact HN3.out | exact HN3.out.alloc _) hgrow4).cell 2 _ rfl
              have c0'' := obj_cell (i := 0) hps4.1 rfl
              have c1'' := obj_cell (i := 1) hps4.1 rfl
              have f0'' := obj_free (i := 0) hps4.1
              have f1'' := obj_free (i := 1) hps4.1
              have HP4 := Lib.hid hps4
              refine hK _ _ ⟨fun _ => ⟨c0'', c1'', hcn4⟩, ?_⟩
              clear hK K hps4 hown4 hgrow4 hat4 hcn4
              try simp only [List.getElem_toArray, List.getElem_cons_zero, List.getElem_cons_succ, Act.put, List.setIfInBounds_toArray, List.set_cons_zero, List.set_cons_succ]
              refine AnyN.all (rs := [14]) (by kernel_rfl) (by simp) (one_of ?_)
              refine op_via rfl rfl (fun K hK => ?_)
              try simp only [List.getElem_toArray, List.getElem_cons_zero, List.getElem_cons_succ]
              go_simp
              refine hK _ _ ⟨fun h => absurd h (by decide), ?_⟩
              clear hK K
              try simp only [List.getElem_toArray, List.getElem_cons_zero, List.getElem_cons_succ, Act.put, List.setIfInBounds_toArray, List.set_cons_zero, List.set_cons_succ]
              refine AnyN.all (rs := [15]) (by kernel_rfl) (by simp) (one_of ?_)
              refine op_via rfl rfl (fun K hK => ?_)
              try simp only [List.getElem_toArray, List.getElem_cons_zero, List.getElem_cons_succ]
              go_simp
              refine hK _ _ ⟨fun h => absurd h (by decide), ?_⟩
              clear hK K
              try simp only [List.getElem_toArray, List.getElem_cons_zero, List.getElem_cons_succ, Act.put, List.setIfInBounds_toArray, List.set_cons_zero, List.set_cons_succ]
              refine AnyN.all (rs := [16]) (by kernel_rfl) (by simp) (one_of ?_)
              refine op_via rfl rfl (fun K hK => ?_)
              try simp only [List.getElem_toArray, List.getElem_cons_zero, List.getElem_cons_succ]
              go_simp
              refine hK _ _ ⟨fun h => absurd h (by decide), ?_⟩
              clear hK K
              try simp only [List.getElem_toArray, List.getElem_cons_zero, List.getElem_cons_succ, Act.put, List.setIfInBounds_toArray, List.set_cons_zero, List.set_cons_succ]
              refine AnyN.all (rs := [17]) (by kernel_rfl) (by simp) (one_of ?_)
              refine op_via rfl rfl (fun K hK => ?_)
              try simp only [List.getElem_toArray, List.getElem_cons_zero, List.getElem_cons_succ]
              go_simp
              refine hK _ _ ⟨fun h => absurd h (by decide), ?_⟩
              clear hK K
              try simp only [List.getElem_toArray, List.getElem_cons_zero, List.getElem_cons_succ, Act.put, List.setIfInBounds_toArray, List.set_cons_zero, List.set_cons_succ]
              refine AnyN.all (rs := [18]) (by kernel_rfl) (by simp) (one_of ?_)
              refine op_via rfl rfl (fun K hK => ?_)
              try simp only [List.getElem_toArray, List.getElem_cons_zero, List.getElem_cons_succ]
              go_simp
              refine hK _ _ ⟨fun h => absurd h (by decide), ?_⟩
              clear hK K
              try simp only [List.getElem_toArray, List.getElem_cons_zero, List.getElem_cons_succ, Act.put, List.setIfInBounds_toArray, List.set_cons_zero, List.set_cons_succ]
              refine AnyN.fin (by kernel_rfl) ?_ _
              go_wp2_with fail
              go_meet
              case rel =>
                refine ⟨q, x, st', pl', Nm ++ [x.name], gs ++ [g], cvs ++ [cv], .slice (some ⟨g4, 0, none⟩) (gs.length + 1) cap4, .slice (some ⟨g3, 0, none⟩) (Nm.length + 1) cap3, rfl, ?_⟩
                have h1 := HPL.out.go
                rw [HFV.out, step_param2 HPP.out HPART.out (by intro e; have := size_data p; rw [e] at this; simp at this; omega)] at h1
                have hq : q = p.data.toList.take (paramEnd p.data.toList + 1) := by have := congrArg Prod.fst HPP2.out; exact this
                have hq1 : 1 ≤ q.length := by rw [hq, List.length_take, size_data]; omega
                have hq2 : q.length ≤ p.size := by rw [hq, List.length_take, size_data]; omega
                have hf := HF.out
                exact ⟨hq1, hq2, by have := HPL.out.fsz; have := HFV.out; omega, psc_stored ⟨HP4.out.1, HP4.out.2.1⟩, h1, HPL.out.fresh.snoc (by rw [hf.1]; simp) hf.2.1 hf.2.2.1, by have := HPL.out.st1; omega, by have := HPL.out.pl1; omega, by have := HPL.out.segs; simp; omega, by have := HPL.out.nms; simp; omega, by simp, inf_snoc HPL.out.nop HGC.out.1 HGC.out.2 HGS.out HCO.out HPW.out (fun k h1 h2 => (Below.heap_setCell _ ⟨w0.heap.size, 0, none⟩ _ k (by have := HPW.out; show k ≠ w0.heap.size; omega)).trans ((Below.heap_setCell _ ⟨w0.heap.size, 1, none⟩ _ k (by have := HPW.out; show k ≠ w0.heap.size; omega)).trans (HP4.out.2.2 k h1 h2))), fun h => absurd h (by rw [hq, List.length_take, size_data, HPE.out]; omega)⟩
          · have hne : (oi (paramPos r.data.toList) == 0) = false := by
              rw [beq_eq_false_iff_ne]
              cases hq : paramPos r.data.toList with
              | none => simp [oi]
              | some n => cases n with
                | zero => exact absurd hq hp
                | succ n => simp [oi]; omega
            have HPP := Lib.hid hp
            clear hp
            have hold := HPL.out.ps.2
            have hob := (HB1.out.block _ (lt_of_obj HPL.out.ps.1)).trans HPL.out.ps.1
            have hcall := constPart_any r (paramPos r.data.toList) (.pointer (some ⟨w0.heap.size, 0, none⟩)) w1 (by omega) (fun n hn => by have := paramPos_lt hn; rw [size_data] at this; omega)
            have HCALL := Lib.hid hcall
            clear hcall
            go_wp2_with fail
            refine HCALL.out.mono ?_
            rintro e w2 ⟨g, rfl, hg, ho, hb2⟩
            have hpf := constPart_facts r.data.toList (paramPos r.data.toList)
            obtain ⟨q, x, hpp⟩ : ∃ q x, (q, x) = constPart r.data.toList (paramPos r.data.toList) := ⟨_, _, rfl⟩
            rw [← hpp] at ho hpf
            rw [← hpp]
            simp only at ho hpf
            have HPP2 := Lib.hid hpp
            have HF := Lib.hid hpf
            have hpn : PNc w2.heap.size w2.heap.size w2 w0 w2 w0.heap.size gs cvs S Nm #[sv, pv, .int .i64 (st : Nat), .int .i64 (pl : Nat)] sv pv g x (.slice none 0 0) := by
              have hw1 := HB1.out.size
              have hPl := lt_of_obj HPL.out.ps.1
              exact ⟨(hb2.block _ (lt_of_obj hob)).trans hob, (hold.below HB1.out).below hb2, ho, fun hm => by have := hold.inn.lt hm; omega, by omega, fun e => by have := (hold.segs.lt _ e).2; omega, fun e => by have := (hold.names.lt _ e).2; omega, fun _ _ _ => rfl, Nat.le_refl _, fun k hk => .inl (by have := (hold.segs.lt _ hk).2; have := hb2.size; omega), fun k hk => .inl (by have := (hold.names.lt _ hk).2; have := hb2.size; omega), by have := hb2.size; omega⟩
            have hgl : gs.length = S.length := hold.inn.1
            have hgs1 : gs.length ≤ 1000000 := by have := HPL.out.segs; omega
            have hbase : w0.heap.size + 1 ≤ w2.heap.size := lt_of_obj hpn.obj
            have HPN := Lib.hid hpn
            have c0 := obj_cell (i := 0) hpn.obj rfl
            have f0 := obj_free (i := 0) hpn.obj
            obtain ⟨i96, hi96, hz960, hz961, hz962⟩ := info_parts info96
            clear hpn hob hpp hpf HCALL ho hg hgl hold
            go_wp2_with (at_builtin
                         refine wpList_append_lies _ rfl (.tmp 48) (.tmp 50) 77 rfl (w0.heap.size + 1) 96 i96 (.pointer none) 1 8 Tryz.underlying77 hi96 hz960 hz961 hz962 rfl (by decide) sv gs.length (ptrs gs) (by rfl) (HPN.out.alloc _).pr.segs ⟨_, 0, none⟩ 1 1 [.pointer (some ⟨g, 0, none⟩)] (by rfl) rfl (by intro j u hu; obtain ⟨rfl, rfl⟩ := one_at hu; rw [add_cell, Nat.zero_add]; simp [cell_alloc, objCell]) (ptrs_one [g]) (by omega) (by simp [maxLen]; omega) (by omega) (by have := hbase; simp; omega) _ (by rfl) ?_
                         intro g4 cap4 w4 hown4 hgrow4 hat4 hlt4
                         have hps4 := PNc.seg (HPN.out.alloc _) hown4 hgrow4 hat4 rfl
                         have c0'' := obj_cell (i := 0) hps4.1 rfl
                         have f0'' := obj_free (i := 0) hps4.1
                         have HP4 := Lib.hid hps4
                         clear hps4 hown4 hgrow4 hat4)
            go_meet
            case rel =>
            refine ⟨q, x, st, pl, Nm, gs ++ [g], cvs ++ [.slice none 0 0], .slice (some ⟨g4, 0, none⟩) (gs.length + 1) cap4, pv, rfl, ?_⟩
            have h1 := HPL.out.go
            have hr0 : r.data.toList ≠ [] := by intro e; have := size_data r; rw [e] at this; simp at this; omega
            rw [HFV.out, go_step_const hr0 HPP.out, ← HPP2.out] at h1
            have hq12 : 1 ≤ q.length ∧ q.length ≤ r.size := by
              have h5 : q = (constPart r.data.toList (paramPos r.data.toList)).1 := by rw [← HPP2.out]
              rw [h5]
              cases hpp : paramPos r.data.toList with
              | none => show 1 ≤ r.data.toList.length ∧ r.data.toList.length ≤ r.size; rw [size_data]; omega
              | some n =>
                show 1 ≤ (r.data.toList.take n).length ∧ (r.data.toList.take n).length ≤ r.size
                have := HPP.out
                rw [hpp] at this
                have hn : n ≠ 0 := by rintro rfl; exact this rfl
                rw [List.length_take, size_data]; omega
            have hrs' : r.data.toList = s.data.toList := by
              rcases HPL.out.at2 with h | h
              · exact h
              · exact absurd (by rw [h]; exact HP0.out) HPP.out
            have HXC := Lib.hid (show x.isParam = false by have := congrArg Prod.snd HPP2.out; have h6 : x = (constPart r.data.toList (paramPos r.data.toList)).2 := this; rw [h6]; rfl)
            have HRQ := Lib.hid (show r.data.toList.drop q.length = p.data.toList by
              have h5 : q = (constPart r.data.toList (paramPos r.data.toList)).1 := congrArg Prod.fst HPP2.out
              rw [h5, hrs', HS1.out, ← HSD.out]
              show s.data.toList.drop (s.data.toList.take 1).length = _
              rw [List.length_take, size_data, Nat.min_eq_left (by omega)])
            have hf := HF.out
            rw [size_data] at hf
            exact ⟨hq12.1, hq12.2, by have := HPL.out.fsz; have := HFV.out; omega, psc_stored0 ⟨HP4.out.1, HP4.out.2.1⟩, h1, HPL.out.fresh.snoc (by omega) hf.2.1 hf.2.2.1, by have := HPL.out.st1; omega, by have := HPL.out.pl1; omega, by have := HPL.out.segs; simp; omega, by have := HPL.out.nms; omega, by simp, inf_const (nop_snoc HPL.out.nop HXC.out), fun h => ⟨HRQ.out, nop_snoc HPL.out.nop HXC.out⟩⟩
        case rest =>
        obtain ⟨q, x, st', pl', Nm', gs', cvs', sv', pv', rfl, hph⟩ := hcut
        have HPH := Lib.hid hph
        have hq2 : q.length ≤ r.size := hph.q2
        have hq1 : 1 ≤ q.length := hph.q1
        have hbs : (bs q).size = q.length := bs_size q
        clear hph
        by_cases hle : q.length = r.size
        · have HX := Lib.hid (show (S ++ [x], Nm') = (T, U) by
            have h1 := HPH.out.go
            rw [List.drop_of_length_le (by rw [size_data]; omega), go_step_end] at h1
            exact Option.some.inj h1)
          have HLE := Lib.hid hle
          go_wp2_with fail
          go_meet
          case rel =>
            have h1 := HX.out
            cases h1
            exact ⟨st', pl', gs', cvs', sv', pv', HPH.out.ps, HPH.out.fresh, by have := HPH.out.segs; omega, HPH.out.any, HPH.out.inf⟩
        · have hlt : q.length < r.size := by omega
          have hne : ((q.length : Int) == (r.size : Int)) = false := by rw [beq_eq_false_iff_ne]; omega
          have HAT := Lib.hid (HPH.out.at3 hlt)
          have hex := Lib.hid (extract_from r q.length)
          clear hle
          go_wp2_with fail
          go_roundw
          case rel =>
            refine ⟨r.extract q.length r.size, fv, st', pl', gs', cvs', S ++ [x], Nm', sv', pv', rfl, ?_⟩
            have hsz : (r.extract q.length r.size).size = r.size - q.length := by simp
            exact ⟨by have := HPH.out.fsz; omega, by omega, HPH.out.ps, by rw [hex.out]; exact HPH.out.go, .inr (by rw [hex.out]; exact HAT.out.1), HAT.out.2, HPH.out.fresh, by have := HPH.out.st1; omega, by have := HPH.out.pl1; omega, by have := HPH.out.segs; omega, by have := HPH.out.nms; omega, fun _ => HPH.out.any⟩
          case measure => simp [strSize]; omega
  case rest =>
  obtain ⟨st, pl, gs, cvs, sv, pv, hps, hfr, htl, ht0, hinf⟩ := hcut
  have HINF := Lib.hid hinf
  clear hinf
  have hgl : gs.length = T.length := hps.2.inn.1
  obtain ⟨r, cap, hsv, hrb, hrl, hrc⟩ := own_some hps.2.segs (by omega)
  subst hsv
  obtain ⟨ao, ncap, rfl⟩ := own_form hps.2.names
  obtain ⟨n, hn⟩ : ∃ n, n = gs.length := ⟨_, rfl⟩
  rw [← hn] at hps hgl
  have HN := Lib.hid hn
  have hn1 : 0 < n := by omega
  have hn2 : n ≤ 1000000 := by omega
  obtain ⟨x, hx⟩ : ∃ x, T[n - 1]? = some x := ⟨T[n - 1]'(by omega), List.getElem?_eq_getElem (by omega)⟩
  obtain ⟨g, cv, hg, hcv, ho⟩ := hps.2.inn.2.2 (n - 1) x hx
  have hgm := List.mem_of_getElem? hg
  have hrow : ∀ (i : Nat) (g : Nat), gs[i]? = some g → wc.cell? ⟨r, i, none⟩ = some (.pointer (some ⟨g, 0, none⟩)) := fun i g h => hrc i _ (by unfold ptrs; rw [List.getElem?_map, h]; rfl)
  have cr := hrow (n - 1) g hg
  have c7 := ho.cell 7 _ rfl
  have f7 := ho.frozen 7
  have c0 := obj_cell (i := 0) hps.1 rfl
  have hgP := (hps.2.far g hgm).1
  have hnrg : r ∉ gs := fun hm => (hps.2.far r hm).2.1 rfl
  have hnr : ∀ v : Value, (wc.setCell ⟨g, 7, none⟩ v).heap[w0.heap.size]? = wc.heap[w0.heap.size]? := fun v => Below.heap_setCell wc ⟨g, 7, none⟩ v _ (by show w0.heap.size ≠ g; omega)
  have hml : (markLast T).length = n := by rw [mark_length]; omega
  have hms : markLast T = T.set (n - 1) { x with last := true } := mark_set hx (by omega)
  have hin2 : SegsIn (wc.setCell ⟨g, 7, none⟩ (.bool true)) gs (markLast T) cvs := by
    rw [hms]
    exact hps.2.inn.set hps.2.nod (f := 7) (x' := { x with last := true }) (.bool true) hx hg hcv rfl
  have hcall := meta_any (markLast T) gs cvs r cap (wc.setCell ⟨g, 7, none⟩ (.bool true)) hps.2.nod hnrg (by omega) (by omega) M HMETA.out
    (fun i g' h => (World.cell?_of_block (a := ⟨r, i, none⟩) (Below.heap_setCell wc ⟨g, 7, none⟩ (.bool true) r (by rintro rfl; exact hnrg hgm))).trans (hrow i g' h)) hin2
    (mark_keep (Q := fun x => x.const.length ≤ 1000000 ∧ x.partCount = 0 ∧ x.cmp = []) (fun x h => h) (fun x hx => by have := hfr x hx; exact ⟨by omega, this.2⟩))
  rw [hml] at hcall
  have HCALL := Lib.hid hcall
  have HPS := Lib.hid hps
  have HROW := Lib.hid hrow
  have HNR := Lib.hid hnr
  have HUL : ¬ 30 < U.length := by omega
  have e1 : IntKind.i64.wrap ((n : Int) - 1) = (n : Int) - 1 := IntWalk.i64_in _ (by omega)
  have e2 : (0 : Int) ≤ (n : Int) - 1 := by omega
  have e3 : ((n : Int) - 1).toNat = n - 1 := by omega
  have e4 : (n : Int) - 1 < (n : Int) := by omega
  clear hcall hps hrow hnr hin2 hms hml hx hg hcv ho hn hrc hfr hgl htl ht0 h30
  go_wp2_with fail
  refine HCALL.out.mono ?_
  rintro e w3 ⟨rfl, hin3, ht3⟩
  have hob : w3.heap[w0.heap.size]? = some (.cells #[.slice (some ⟨r, 0, none⟩) n cap, .slice ao U.length ncap, .int .i64 (st : Nat), .int .i64 (pl : Nat)] 79 (0, 0)) :=
    (ht3.block _ (by have := lt_of_obj HPS.out.1; simpa using this) (fun hm => by have := (HPS.out.2.far _ hm).1; omega)).trans ((HNR.out _).trans HPS.out.1)
  have d0 := obj_cell (i := 0) hob rfl
  have d1 := obj_cell (i := 1) hob rfl
  have d2 := obj_cell (i := 2) hob rfl
  have d3 := obj_cell (i := 3) hob rfl
  have g0 := obj_free (i := 0) hob
  have hrz : w3.heap[w.heap.size]? = some (.cells #[.slice none 0 0, .slice none 0 0, .int .i64 0, .int .i64 0] 79 (0, 0)) := by
    refine (ht3.block _ (by have := HPS.out.2.old.size; simp; omega) (fun hm => by have := (HPS.out.2.far _ hm).1; omega)).trans ((Below.heap_setCell wc ⟨g, 7, none⟩ (.bool true) _ (by show w.heap.size ≠ g; omega)).trans ((HPS.out.2.old.block _ hwp).trans ?_))
    rw [HW0.out]
    show (w.heap.push _)[w.heap.size]? = _
    simp
  have r0 := obj_cell (i := 0) hrz rfl
  have r1 := obj_cell (i := 1) hrz rfl
  have r2 := obj_cell (i := 2) hrz rfl
  have r3 := obj_cell (i := 3) hrz rfl
  have z0 := obj_free (i := 0) hrz
  have z1 := obj_free (i := 1) hrz
  have z2 := obj_free (i := 2) hrz
  have z3 := obj_free (i := 3) hrz
  have hne : ¬ w0.heap.size = w.heap.size := by omega
  have HRZ := Lib.hid hrz
  have HOB := Lib.hid hob
  clear hrz hob
  have HIN3 := Lib.hid hin3
  have HT3 := Lib.hid ht3
  clear hin3 ht3 HCALL
  go_wp2_with fail
  have hW5 : ((((((w3.setCell ⟨w0.heap.size, 0, none⟩ (.slice (some ⟨r, 0, none⟩) n cap)).setCell ⟨w.heap.size, 0, none⟩ (.slice (some ⟨r, 0, none⟩) n cap)).setCell ⟨w.heap.size, 1, none⟩ (.slice ao U.length ncap)).setCell ⟨w.heap.size, 2, none⟩ (.int .i64 (st : Nat))).setCell ⟨w.heap.size, 3, none⟩ (.int .i64 (pl : Nat)))).heap[w.heap.size]? = some (.cells #[.slice (some ⟨r, 0, none⟩) n cap, .slice ao U.length ncap, .int .i64 (st : Nat), .int .i64 (pl : Nat)] 79 (0, 0)) :=
    obj_set (i := 3) _ (obj_set (i := 2) _ (obj_set (i := 1) _ (obj_set (i := 0) _ ((Below.heap_setCell _ ⟨w0.heap.size, 0, none⟩ _ _ (by show w.heap.size ≠ w0.heap.size; omega)).trans HRZ.out))))
  refine bodyPost_ret (v := .agg #[.slice (some ⟨r, 0, none⟩) n cap, .slice ao U.length ncap, .int .i64 (st : Nat), .int .i64 (pl : Nat)]) (results_cell_row rfl _ _ w.heap.size 79 _ (0, 0) _ (by rfl) hW5 Tryz.underlying79 rfl (by kernel_rfl)) rfl ?_
  have hnn : n = M.length := by have h1 := HN.out; have h2 := HIN3.out.1; omega
  have hb0 : Below w.heap.size w w0 := by rw [HW0.out]; exact (Below.refl _ _).alloc (Nat.le_refl _) _
  have hbc : Below w.heap.size w wc := hb0.trans (HPS.out.2.old.mono hb0.size)
  have hb3 : Below w.heap.size w w3 := (hbc.setCell (p := ⟨g, 7, none⟩) (by show w.heap.size ≤ g; omega) (.bool true)).trans (touch_to_below HT3.out (fun k hk => by have := (HPS.out.2.far k hk).1; omega) (by have := hbc.size; simpa using this))
  have hsz3 : wc.heap.size ≤ w3.heap.size := by have := HT3.out.size; simpa using this
  have hnrow : ∀ k, k ∈ gs → k ≠ w0.heap.size ∧ k ≠ w.heap.size := fun k hk => by have := (HPS.out.2.far k hk).1; omega
  have hrr : r ≠ w0.heap.size ∧ r ≠ w.heap.size ∧ r ≠ g := ⟨by omega, by omega, by rintro rfl; exact hnrg hgm⟩
  refine ⟨gs, cvs, r, cap, .slice ao U.length ncap, st, pl, by rw [← hnn], HIN3.out.keep (fun k hk => five_keep _ _ _ _ _ k (hnrow k hk).1 (hnrow k hk).2), HPS.out.2.nod, inf_keep HINF.out (Nat.le_of_lt hwp) (fun k h1 h2 h3 => (five_keep _ _ _ _ _ k (by omega) (by omega)).trans ((HT3.out.block k (by simpa using h3) h2).trans (Below.heap_setCell wc ⟨g, 7, none⟩ (.bool true) k (by show k ≠ g; rintro rfl; exact h2 hgm)))), fun i g' h => ?_, ?_, ?_, ?_⟩
  · refine (World.cell?_of_block (a := ⟨r, i, none⟩) (five_keep _ _ _ _ _ r hrr.1 hrr.2.1)).trans ?_
    refine (World.cell?_of_block (a := ⟨r, i, none⟩) (HT3.out.block r (by simpa using hrl) hnrg)).trans ?_
    exact (World.cell?_of_block (a := ⟨r, i, none⟩) (Below.heap_setCell wc ⟨g, 7, none⟩ (.bool true) r hrr.2.2)).trans (HROW.out i g' h)
  · simp only [World.size_setCell]; omega
  · rw [← HUN.out]
    have hnm := HPS.out.2.names
    have hpv : ∀ k, (Value.slice ao U.length ncap).ownBlock = some k → k ∉ gs ∧ w0.heap.size < k ∧ k < wc.heap.size := fun k hk => ⟨fun hm => (HPS.out.2.far k hm).2.2 hk, (hnm.lt k hk).1, (hnm.lt k hk).2⟩
    have hkeep : ∀ k, (Value.slice ao U.length ncap).ownBlock = some k → ((((((w3.setCell ⟨w0.heap.size, 0, none⟩ (.slice (some ⟨r, 0, none⟩) n cap)).setCell ⟨w.heap.size, 0, none⟩ (.slice (some ⟨r, 0, none⟩) n cap)).setCell ⟨w.heap.size, 1, none⟩ (.slice ao U.length ncap)).setCell ⟨w.heap.size, 2, none⟩ (.int .i64 (st : Nat))).setCell ⟨w.heap.size, 3, none⟩ (.int .i64 (pl : Nat)))).heap[k]? = wc.heap[k]? := fun k hk => by
      have h1 := hpv k hk
      refine (five_keep _ _ _ _ _ k (by omega) (by omega)).trans ((HT3.out.block k (by simpa using h1.2.2) h1.1).trans (Below.heap_setCell wc ⟨g, 7, none⟩ (.bool true) k ?_))
      show k ≠ g
      rintro rfl
      exact h1.1 hgm
    exact own_base (own_keep hnm hkeep) (by omega)
  · exact five_below _ _ _ _ _ hb3 (by omega) (Nat.le_refl _)
end Go.Proofs.YtiebedcldbmlhaaGreatDoor
