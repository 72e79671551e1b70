/-
  Joined: parseRoute of the empty pattern: no parts, no names; parseRoute, of any pattern: also of those with constraints, and of those at which it panics.
  Conditions: each law's own.
-/
import Derived.Test.YtiebedcldbmlhaaGreatDoorK26
import Derived.Test.YtiebedcldbmlhaaGreatDoorK30
import Derived.Test.YtiebedcldbmlhaaGreatDoorK31
import Derived.Test.YtiebedcldbmlhaaGreatDoorK32
import Derived.WalkLawsBesides
namespace Go.Proofs.YtiebedcldbmlhaaGreatDoor
open Go.RowKit
set_option linter.unusedVariables false

set_option maxHeartbeats 1000000 in
set_option maxRecDepth 100000 in
theorem meta_empty (w : World) : Calls Tryz.prog 55 #[.slice none 0 0] w fun e w' => e = .returned (.slice none 0 0) ∧ w = w' := by
  go_enter Tryz.func55, Tryz.ntmps55
  go_wp2_with fail
  go_loopw [5] (fun i wx => i = .int .i64 (-1) ∧ w = wx) (fun _ _ => 0)
  case atStart => exact ⟨rfl, rfl⟩
  case round =>
    obtain ⟨rfl, rfl⟩ := hrel
    go_wp2_with fail
    go_loopw [6] (fun i wx => i = .int .i64 0 ∧ w = wx) (fun _ _ => 0)
    case atStart => exact ⟨rfl, rfl⟩
    case round =>
      obtain ⟨rfl, rfl⟩ := hrel
      go_wp2_with fail
      go_ret
      exact ⟨rfl, rfl⟩
set_option maxHeartbeats 1000000 in
set_option maxRecDepth 100000 in
theorem parse_empty (w : World) : Calls Tryz.prog 43 #[.string ⟨#[]⟩] w fun e w' => e = .returned (.agg #[.slice none 0 0, .slice none 0 0, .int .i64 0, .int .i64 0]) ∧ Below w.heap.size w w' := by
  obtain ⟨W2, hW2⟩ : ∃ W2, W2 = ((w.alloc (Obj.cells #[Value.slice none 0 0, Value.slice none 0 0, Value.int IntKind.i64 0, Value.int IntKind.i64 0] 79)).alloc (Obj.cells #[Value.slice none 0 0, Value.slice none 0 0, Value.int IntKind.i64 0, Value.int IntKind.i64 0] 79)) := ⟨_, rfl⟩
  have s1 : (w.alloc (Obj.cells #[Value.slice none 0 0, Value.slice none 0 0, Value.int IntKind.i64 0, Value.int IntKind.i64 0] 79)).heap.size = w.heap.size + 1 := by simp
  have hb : Below w.heap.size w W2 := by rw [hW2]; exact ((Below.refl _ _).alloc (Nat.le_refl _) _).alloc (by simp) _
  have h0 : W2.heap[w.heap.size]? = some (.cells #[Value.slice none 0 0, Value.slice none 0 0, Value.int IntKind.i64 0, Value.int IntKind.i64 0] 79 (0, 0)) := by rw [hW2, Below.heap_alloc _ _ _ (by rw [s1]; omega), heap_alloc_new]
  have h1 : W2.heap[w.heap.size + 1]? = some (.cells #[Value.slice none 0 0, Value.slice none 0 0, Value.int IntKind.i64 0, Value.int IntKind.i64 0] 79 (0, 0)) := by rw [hW2, ← s1, heap_alloc_new]
  have a0 := obj_cell (i := 0) h0 rfl
  have a1 := obj_cell (i := 1) h0 rfl
  have a2 := obj_cell (i := 2) h0 rfl
  have a3 := obj_cell (i := 3) h0 rfl
  have b0 := obj_cell (i := 0) h1 rfl
  have b1 := obj_cell (i := 1) h1 rfl
  have b2 := obj_cell (i := 2) h1 rfl
  have b3 := obj_cell (i := 3) h1 rfl
  have f0 := obj_free (i := 0) h0
  have f1 := obj_free (i := 1) h0
  have f2 := obj_free (i := 2) h0
  have f3 := obj_free (i := 3) h0
  have g0 := obj_free (i := 0) h1
  have HB := Lib.hid hb
  have H0 := Lib.hid h0
  have HW2 := Lib.hid hW2
  have HM := Lib.hid (meta_empty W2)
  clear hb h0 h1 hW2 s1
  go_enter Tryz.func43, Tryz.ntmps43
  go_wp2_with fail
  rw [← HW2.out]
  go_loopw [0, 5] (fun a b wx => a = .string ⟨#[]⟩ ∧ W2 = wx) (fun _ _ _ => 0)
  case atStart => exact ⟨rfl, rfl⟩
  case round =>
    obtain ⟨rfl, rfl⟩ := hrel
    go_wp2_with fail
    refine HM.out.mono ?_
    rintro e w' ⟨rfl, rfl⟩
    have hne : ¬ w.heap.size + 1 = w.heap.size := by omega
    go_wp2_with fail
    have hW5 : ((((((W2.setCell ⟨w.heap.size + 1, 0, none⟩ (.slice none 0 0)).setCell ⟨w.heap.size, 0, none⟩ (.slice none 0 0)).setCell ⟨w.heap.size, 1, none⟩ (.slice none 0 0)).setCell ⟨w.heap.size, 2, none⟩ (.int .i64 0)).setCell ⟨w.heap.size, 3, none⟩ (.int .i64 0))).heap[w.heap.size]? = some (.cells #[.slice none 0 0, .slice none 0 0, .int .i64 0, .int .i64 0] 79 (0, 0)) :=
      obj_set (i := 3) _ (obj_set (i := 2) _ (obj_set (i := 1) _ (obj_set (i := 0) _ ((Below.heap_setCell _ ⟨w.heap.size + 1, 0, none⟩ _ _ (by show w.heap.size ≠ w.heap.size + 1; omega)).trans H0.out))))
    refine bodyPost_ret (v := .agg #[.slice none 0 0, .slice none 0 0, .int .i64 0, .int .i64 0]) (results_cell_row rfl _ _ w.heap.size 79 _ (0, 0) _ (by rfl) hW5 Tryz.underlying79 rfl (by kernel_rfl)) rfl ?_
    exact ⟨rfl, five_below (P := w.heap.size + 1) (R := w.heap.size) _ _ _ _ _ HB.out (by omega) (Nat.le_refl _)⟩

end Go.Proofs.YtiebedcldbmlhaaGreatDoor
namespace Go.Proofs.YtiebedcldbmlhaaGreatDoor
open Go.RowKit
set_option linter.unusedVariables false

/-- The constraints of the parameters so far: laid in a span of blocks, and kept. -/
def Held (P Bd : Nat) (W : World) (gs : List Nat) (cvs : List Value) (S : List Seg) (sv pv : Value) : Prop :=
  ∀ (i : Nat) (x : Seg) (g : Nat) (cv : Value), S[i]? = some x → gs[i]? = some g → cvs[i]? = some cv →
    ∃ (L : Nat) (Z : World), P < L ∧ Z.heap.size ≤ Bd ∧ ConsAt Z L g cv x.cons ∧ (∀ k, L ≤ k → k < Z.heap.size → k ≠ g → W.heap[k]? = Z.heap[k]?) ∧
      (∀ g' ∈ gs, g' < L ∨ Z.heap.size ≤ g' ∨ g' = g) ∧ (∀ k, sv.ownBlock = some k → k < L ∨ Z.heap.size ≤ k) ∧ (∀ k, pv.ownBlock = some k → k < L ∨ Z.heap.size ≤ k)
theorem Held.mono {P Bd Bd2 : Nat} {W : World} {gs : List Nat} {cvs : List Value} {S : List Seg} {sv pv : Value} (h : Held P Bd W gs cvs S sv pv) (hb : Bd ≤ Bd2) : Held P Bd2 W gs cvs S sv pv := by
  intro i x g cv h1 h2 h3
  obtain ⟨L, Z, a1, a2, a3⟩ := h i x g cv h1 h2 h3
  exact ⟨L, Z, a1, Nat.le_trans a2 hb, a3⟩
/-- A step that leaves all old blocks but one that is the parser's or of its rows. -/
theorem Held.step {P Bd : Nat} {W W2 : World} {gs : List Nat} {cvs : List Value} {S : List Seg} {sv pv : Value} (h : Held P Bd W gs cvs S sv pv) {row : Option Nat} (hBd : Bd ≤ W.heap.size) (hg : W.grownBy W2 row)
    (hr : ∀ k, row = some k → k ≤ P ∨ sv.ownBlock = some k ∨ pv.ownBlock = some k) : Held P Bd W2 gs cvs S sv pv := by
  intro i x g cv h1 h2 h3
  obtain ⟨L, Z, a1, a2, a3, a4, a5, a6, a7⟩ := h i x g cv h1 h2 h3
  refine ⟨L, Z, a1, a2, a3, fun k b1 b2 b3 => (hg.block k (by omega) (fun e => ?_)).trans (a4 k b1 b2 b3), a5, a6, a7⟩
  rcases hr k e.symm with c | c | c
  · omega
  · have := a6 k c; omega
  · have := a7 k c; omega
theorem Held.below {P Bd : Nat} {W W2 : World} {gs : List Nat} {cvs : List Value} {S : List Seg} {sv pv : Value} (h : Held P Bd W gs cvs S sv pv) (hBd : Bd ≤ W.heap.size) (hb : Below W.heap.size W W2) : Held P Bd W2 gs cvs S sv pv :=
  h.step hBd (grown_of_below hb) (by intro k hk; cases hk)
theorem Held.set {P Bd : Nat} {W : World} {gs : List Nat} {cvs : List Value} {S : List Seg} {sv pv : Value} (h : Held P Bd W gs cvs S sv pv) (hBd : Bd ≤ W.heap.size) (i : Nat) (v : Value) : Held P Bd (W.setCell ⟨P, i, none⟩ v) gs cvs S sv pv :=
  h.step (row := some P) hBd ⟨rfl, rfl, rfl, by simp, fun k hk hne => Below.heap_setCell W ⟨P, i, none⟩ v k (fun e => hne (by rw [e]))⟩ (by intro k hk; cases hk; exact .inl (Nat.le_refl _))
theorem Held.rows {P Bd : Nat} {W : World} {gs : List Nat} {cvs : List Value} {S : List Seg} {sv pv sv' pv' : Value} (h : Held P Bd W gs cvs S sv pv) (hs : ∀ k, sv'.ownBlock = some k → sv.ownBlock = some k ∨ Bd ≤ k) (hp : ∀ k, pv'.ownBlock = some k → pv.ownBlock = some k ∨ Bd ≤ k) : Held P Bd W gs cvs S sv' pv' := by
  intro i x g cv h1 h2 h3
  obtain ⟨L, Z, a1, a2, a3, a4, a5, a6, a7⟩ := h i x g cv h1 h2 h3
  refine ⟨L, Z, a1, a2, a3, a4, a5, fun k hk => ?_, fun k hk => ?_⟩
  · rcases hs k hk with c | c
    · exact a6 k c
    · right; omega
  · rcases hp k hk with c | c
    · exact a7 k c
    · right; omega
theorem Held.snoc {P Bd Bd2 L : Nat} {W Z : World} {gs : List Nat} {cvs : List Value} {S : List Seg} {sv pv cv : Value} {x : Seg} {g : Nat} (h : Held P Bd W gs cvs S sv pv) (hl1 : gs.length = S.length) (hl2 : cvs.length = S.length) (hBd : Bd ≤ Bd2) (hg : Bd ≤ g)
    (hn : P < L ∧ Z.heap.size ≤ Bd2 ∧ ConsAt Z L g cv x.cons ∧ (∀ k, L ≤ k → k < Z.heap.size → W.heap[k]? = Z.heap[k]?) ∧ (∀ g' ∈ gs, g' < L) ∧ (∀ k, sv.ownBlock = some k → k < L ∨ Z.heap.size ≤ k) ∧ (∀ k, pv.ownBlock = some k → k < L ∨ Z.heap.size ≤ k)) :
    Held P Bd2 W (gs ++ [g]) (cvs ++ [cv]) (S ++ [x]) sv pv := by
  intro i y g' cv' h1 h2 h3
  by_cases hi : i < S.length
  · rw [List.getElem?_append_left hi] at h1
    rw [List.getElem?_append_left (by omega)] at h2 h3
    obtain ⟨L', Z', a1, a2, a3, a4, a5, a6, a7⟩ := h i y g' cv' h1 h2 h3
    refine ⟨L', Z', a1, by omega, a3, a4, fun g'' hm => ?_, a6, a7⟩
    rcases List.mem_append.1 hm with hm | hm
    · exact a5 g'' hm
    · obtain rfl : g'' = g := by simpa using hm
      right; left; omega
  · rw [List.getElem?_append_right (by omega)] at h1
    obtain ⟨hl, _⟩ := List.getElem?_eq_some_iff.1 h1
    have hi0 : i - S.length = 0 := by simp at hl; omega
    rw [List.getElem?_append_right (by omega), hl1, hi0] at h2
    rw [List.getElem?_append_right (by omega), hl2, hi0] at h3
    rw [hi0] at h1
    obtain rfl : x = y := by simpa using h1
    obtain rfl : g = g' := by simpa using h2
    obtain rfl : cv = cv' := by simpa using h3
    obtain ⟨b1, b2, b3, b4, b5, b6, b7⟩ := hn
    refine ⟨L, Z, b1, b2, b3, fun k c1 c2 _ => b4 k c1 c2, fun g'' hm => ?_, b6, b7⟩
    rcases List.mem_append.1 hm with hm | hm
    · exact .inl (b5 g'' hm)
    · exact .inr (.inr (by simpa using hm))
/-- The constraints of the parameters among the segments lie in memory. -/
def ConsOK (B : Nat) (W : World) (gs : List Nat) (cvs : List Value) (S : List Seg) : Prop :=
  ∀ (i : Nat) (x : Seg) (g : Nat) (cv : Value), S[i]? = some x → gs[i]? = some g → cvs[i]? = some cv → ∃ base, B ≤ base ∧ ConsAt W base g cv x.cons
theorem Held.ok {P Bd B : Nat} {W W2 : World} {gs : List Nat} {cvs : List Value} {S : List Seg} {sv pv : Value} (h : Held P Bd W gs cvs S sv pv) (hBd : Bd ≤ W.heap.size) (hB : B ≤ P) (hk : ∀ k, P < k → k ∉ gs → k < W.heap.size → W2.heap[k]? = W.heap[k]?) : ConsOK B W2 gs cvs S := by
  intro i x g cv h1 h2 h3
  obtain ⟨L, Z, a1, a2, a3, a4, a5, a6, a7⟩ := h i x g cv h1 h2 h3
  refine ⟨L, by omega, consAt_keep a3 fun k b1 b2 b3 => (hk k (by omega) (fun hm => ?_) (by omega)).trans (a4 k b1 b3 b2)⟩
  rcases a5 k hm with c | c | c
  · omega
  · omega
  · exact b2 c
theorem ConsOK.map {B : Nat} {W : World} {gs : List Nat} {cvs : List Value} {S M : List Seg} (h : ConsOK B W gs cvs S) (h2 : M.map (·.cons) = S.map (·.cons)) : ConsOK B W gs cvs M := by
  intro i x g cv a1 a2 a3
  have b2 := congrArg (fun l => l[i]?) h2
  simp only [List.getElem?_map, a1, Option.map_some] at b2
  cases hy : S[i]? with
  | none => rw [hy] at b2; cases b2
  | some y =>
    rw [hy] at b2
    simp only [Option.map_some, Option.some.injEq] at b2
    obtain ⟨base, c1, c2⟩ := h i y g cv hy a2 a3
    exact ⟨base, c1, by rw [b2]; exact c2⟩
theorem meta_keeps : ∀ (L M : List Seg), metaFwd L = some M → M.map (·.isParam) = L.map (·.isParam) ∧ M.map (·.cons) = L.map (·.cons)
  | [], M, h => by
    have : M = [] := by unfold metaFwd at h; cases h; rfl
    subst this
    exact ⟨rfl, rfl⟩
  | x :: r, M, h => by
    cases hip : x.isParam with
    | true =>
      obtain ⟨T', hT, rfl⟩ := mf_param h hip
      obtain ⟨i1, i2⟩ := meta_keeps r T' hT
      exact ⟨by simp [i1], by simp [i2]⟩
    | false =>
      obtain ⟨c, T', hc, hT, rfl⟩ := mf_const h hip
      obtain ⟨i1, i2⟩ := meta_keeps r T' hT
      refine ⟨?_, ?_⟩
      · rw [List.map_cons, List.map_cons, i1]; congr 1; split <;> rfl
      · rw [List.map_cons, List.map_cons, i2]; congr 1; split <;> rfl
theorem back_keeps : ∀ (L : List Seg), (cmpBack L).1.map (·.isParam) = L.map (·.isParam) ∧ (cmpBack L).1.map (·.cons) = L.map (·.cons)
  | [] => ⟨rfl, rfl⟩
  | x :: r => by
    obtain ⟨i1, i2⟩ := back_keeps r
    cases hp : x.isParam with
    | true => rw [cmpBack_param hp]; exact ⟨by simp [i1], by simp [i2]⟩
    | false => rw [cmpBack_const hp]; exact ⟨by simp [i1], by simp [i2]⟩
theorem all_keeps {T M : List Seg} (h : metaFwd (cmpBack (markLast T)).1 = some M) : M.map (·.isParam) = T.map (·.isParam) ∧ M.map (·.cons) = T.map (·.cons) := by
  obtain ⟨a1, a2⟩ := meta_keeps _ _ h
  obtain ⟨b1, b2⟩ := back_keeps (markLast T)
  exact ⟨a1.trans (b1.trans (mark_map (·.isParam) (fun _ => rfl) T)), a2.trans (b2.trans (mark_map (·.cons) (fun _ => rfl) T))⟩
theorem step_none {k : Nat} {p : Bs} {st pl : Nat} {S : List Seg} {N : List Bs} (h0 : paramPos p = some 0) (hp : paramPart p st pl = none) (hne : p ≠ []) : parseGo (k + 1) p st pl S N = none := by
  conv => lhs; unfold parseGo
  rw [if_neg hne, h0]
  simp only [hp]
theorem partOf_take (p : Bs) (st pl : Nat) (nm : Bs) (cons : List Con) : (partOf p st pl nm cons).1 = p.take (paramEnd p + 1) := rfl
theorem paramPart_facts {p : Bs} {st pl st' pl' : Nat} {q : Bs} {x : Seg} (h : paramPart p st pl = some (q, x, st', pl')) :
    q = p.take (paramEnd p + 1) ∧ x.const = [] ∧ x.partCount = 0 ∧ x.cmp = [] ∧ x.isParam = true ∧ st' ≤ st + 1 ∧ pl' ≤ pl + 1 := by
  unfold paramPart at h
  simp only at h
  repeat' split at h
  all_goals first
    | (cases h; done)
    | (cases h
       refine ⟨rfl, rfl, rfl, rfl, rfl, ?_, ?_⟩ <;> (first | omega | (split <;> omega)))

/-- What parseRoute leaves. -/
def ParsedD (w : World) (o : Option (List Seg × List Bs)) (e : Ending) (w' : World) : Prop :=
  match o with
  | none => Dies e ∧ Below w.heap.size w w'
  | some (M, N) => ∃ (gs : List Nat) (cvs : List Value) (ao : Option Addr) (cap : Nat) (pv : Value) (st pl : Nat), e = .returned (.agg #[.slice ao M.length cap, pv, .int .i64 (st : Nat), .int .i64 (pl : Nat)]) ∧
    SegsIn w' gs M cvs ∧ gs.Nodup ∧ ConsOK w.heap.size w' gs cvs M ∧ (∀ (i : Nat) (g : Nat), gs[i]? = some g → ∃ r, ao = some ⟨r, 0, none⟩ ∧ r < w'.heap.size ∧ w'.cell? ⟨r, i, none⟩ = some (.pointer (some ⟨g, 0, none⟩))) ∧
    w'.ownsRow w.heap.size 9 1 pv N.length (svals N) ∧ Below w.heap.size w w'

/-- The loop's state. -/
structure PLd (w : World) (s : ByteArray) (O : Option (List Seg × List Bs)) (r : ByteArray) (wr : World) (fuel st pl : Nat) (gs : List Nat) (cvs : List Value) (S : List Seg) (N : List Bs) (sv pv : Value) : Prop where
  fsz : r.size ≤ fuel
  size : r.size ≤ s.size
  ps : PSc w wr w.heap.size gs cvs S N st pl sv pv
  go : parseGo fuel r.data.toList st pl S N = O
  held : Held w.heap.size wr.heap.size wr gs cvs S sv pv
  fresh : Fresh s.size S
  st1 : st + r.size ≤ s.size
  pl1 : pl + r.size ≤ s.size
  segs : S.length + r.size ≤ s.size
  nms : N.length + r.size ≤ s.size
  any : r.size < s.size → 0 < S.length

/-- The state with a new segment that is not yet in the rows. -/
structure PNd (L H : Nat) (Z : World) (w W : World) (P : Nat) (gs : List Nat) (cvs : List Value) (S : List Seg) (N : List Bs) (o : Array Value) (sv pv : Value) (g : Nat) (x : Seg) (cv : Value) : Prop where
  pn : PNc L H Z w W P gs cvs S N o sv pv g x cv
  held : Held P L W gs cvs S sv pv
  gsL : ∀ g' ∈ gs, g' < L
  gL : L ≤ g
  con : Z.heap.size = H ∧ ConsAt Z L g cv x.cons
section
variable {L H : Nat} {Z : World} {w W W2 : World} {P : Nat} {gs : List Nat} {cvs : List Value} {S : List Seg} {N : List Bs} {o : Array Value} {sv pv : Value} {g : Nat} {x : Seg} {cv : Value}
theorem PNd.below (h : PNd L H Z w W P gs cvs S N o sv pv g x cv) (hb : Below W.heap.size W W2) : PNd L H Z w W2 P gs cvs S N o sv pv g x cv :=
  ⟨h.pn.below hb, h.held.below (by have := h.pn.so.lt; have := h.gL; omega) hb, h.gsL, h.gL, h.con⟩
theorem PNd.alloc (h : PNd L H Z w W P gs cvs S N o sv pv g x cv) (ob : Obj) : PNd L H Z w (W.alloc ob) P gs cvs S N o sv pv g x cv :=
  h.below ((Below.refl _ _).alloc (Nat.le_refl _) _)
theorem PNd.pr (h : PNd L H Z w W P gs cvs S N o sv pv g x cv) : PRc w W P gs cvs S N sv pv := h.pn.pr
theorem PNd.so (h : PNd L H Z w W P gs cvs S N o sv pv g x cv) : SegObj W g x cv := h.pn.so
theorem PNd.obj (h : PNd L H Z w W P gs cvs S N o sv pv g x cv) : W.heap[P]? = some (.cells o 79 (0, 0)) := h.pn.obj
theorem PNd.name (h : PNd L H Z w W P gs cvs S N o sv pv g x cv) {n : Bs} {g3 cap3 J : Nat}
    (ho : W2.ownsRow (P + 1) 9 1 (.slice (some ⟨g3, 0, none⟩) (N.length + 1) cap3) (N.length + 1) (svals N ++ [.string (bs n)])) (hg : W.grownBy W2 pv.ownBlock) (ha : pv.ownBlock = some g3 ∨ g3 = J) (hH : W.heap.size = J) :
    PNd L H Z w W2 P gs cvs S (N ++ [n]) o sv (.slice (some ⟨g3, 0, none⟩) (N.length + 1) cap3) g x cv := by
  have hLW : L ≤ W.heap.size := by have := h.pn.so.lt; have := h.gL; omega
  refine ⟨h.pn.name ho hg ha hH, (h.held.step hLW hg (fun k hk => .inr (.inr hk))).rows (fun k hk => .inl hk) (fun k hk => ?_), h.gsL, h.gL, h.con⟩
  have hk' : g3 = k := Option.some.inj hk
  subst hk'
  rcases ha with e | e
  · exact .inl e
  · right; omega
theorem PNd.seg (h : PNd L H Z w W P gs cvs S N o sv pv g x cv) {g3 cap3 J : Nat}
    (ho : W2.ownsRow (P + 1) 96 1 (.slice (some ⟨g3, 0, none⟩) (gs.length + 1) cap3) (gs.length + 1) (ptrs gs ++ [.pointer (some ⟨g, 0, none⟩)])) (hg : W.grownBy W2 sv.ownBlock) (ha : sv.ownBlock = some g3 ∨ g3 = J) (hH : W.heap.size = J) :
    W2.heap[P]? = some (.cells o 79 (0, 0)) ∧ PRc w W2 P (gs ++ [g]) (cvs ++ [cv]) (S ++ [x]) N (.slice (some ⟨g3, 0, none⟩) (gs.length + 1) cap3) pv ∧ Held P W2.heap.size W2 (gs ++ [g]) (cvs ++ [cv]) (S ++ [x]) (.slice (some ⟨g3, 0, none⟩) (gs.length + 1) cap3) pv := by
  obtain ⟨a1, a2, a3⟩ := h.pn.seg ho hg ha hH
  have hLW : L ≤ W.heap.size := by have := h.pn.so.lt; have := h.gL; omega
  have hsz := hg.size
  have hkH := h.pn.kH
  have hown : ∀ k, (Value.slice (some ⟨g3, 0, none⟩) (gs.length + 1) cap3).ownBlock = some k → sv.ownBlock = some k ∨ W.heap.size ≤ k := fun k hk => by
    have hk' : g3 = k := Option.some.inj hk
    subst hk'
    rcases ha with e | e
    · exact .inl e
    · right; omega
  refine ⟨a1, a2, ?_⟩
  refine Held.snoc (L := L) (Z := Z) ((h.held.step hLW hg (fun k hk => .inr (.inl hk))).rows (fun k hk => ?_) (fun k hk => .inl hk)) h.pn.pr.inn.1 h.pn.pr.inn.2.1 (by omega) h.gL ?_
  · rcases hown k hk with e | e
    · exact .inl e
    · right; omega
  · obtain ⟨c1, c2⟩ := h.con
    refine ⟨h.pn.kP, by omega, c2, fun k b1 b2 => a3 k b1 (by omega), h.gsL, fun k hk => ?_, fun k hk => ?_⟩
    · rcases hown k hk with e | e
      · have := h.pn.ks k e; omega
      · right; omega
    · have := h.pn.kp k hk; omega
theorem PNd.so_keep (h : PNd L H Z w W P gs cvs S N o sv pv g x cv) (hg : W.grownBy W2 sv.ownBlock) : SegObj W2 g x cv := h.pn.so_keep hg
end
theorem PNd.cells {L H : Nat} {Z : World} {w W : World} {P : Nat} {gs : List Nat} {cvs : List Value} {S : List Seg} {N : List Bs} {st pl : Nat} {sa pa sv pv : Value} {g : Nat} {x : Seg} {cv : Value} (h : PNd L H Z w W P gs cvs S N #[sa, pa, .int .i64 (st : Nat), .int .i64 (pl : Nat)] sv pv g x cv) :
    W.cell? ⟨P, 0, none⟩ = some sa ∧ W.cell? ⟨P, 1, none⟩ = some pa ∧ W.cell? ⟨g, 2, none⟩ = some (.string (bs x.name)) := h.pn.cells
/-- The state in the middle of a round: the part is in the rows, the pattern is not yet cut. -/
structure PHd (w : World) (s : ByteArray) (O : Option (List Seg × List Bs)) (r : ByteArray) (wr : World) (fuel st pl : Nat) (q : Bs) (gs : List Nat) (cvs : List Value) (S : List Seg) (N : List Bs) (sv pv : Value) : Prop where
  q1 : 1 ≤ q.length
  q2 : q.length ≤ r.size
  fsz : r.size ≤ fuel + 1
  ps : PSc w wr w.heap.size gs cvs S N st pl sv pv
  go : parseGo fuel (r.data.toList.drop q.length) st pl S N = O
  held : Held w.heap.size wr.heap.size wr gs cvs S sv pv
  fresh : Fresh s.size S
  st1 : st + r.size ≤ s.size + 1
  pl1 : pl + r.size ≤ s.size + 1
  segs : S.length + r.size ≤ s.size + 1
  nms : N.length + r.size ≤ s.size + 1
  any : 0 < S.length
theorem held_stored {P : Nat} {W : World} {gs : List Nat} {cvs : List Value} {S : List Seg} {sv pv : Value} (h : Held P W.heap.size W gs cvs S sv pv) (a b : Value) : Held P ((W.setCell ⟨P, 1, none⟩ a).setCell ⟨P, 0, none⟩ b).heap.size ((W.setCell ⟨P, 1, none⟩ a).setCell ⟨P, 0, none⟩ b) gs cvs S sv pv := by
  have := (h.set (Nat.le_refl _) 1 a).set (by simp) 0 b
  exact this.mono (by simp)
theorem held_stored0 {P : Nat} {W : World} {gs : List Nat} {cvs : List Value} {S : List Seg} {sv pv : Value} (h : Held P W.heap.size W gs cvs S sv pv) (b : Value) : Held P (W.setCell ⟨P, 0, none⟩ b).heap.size (W.setCell ⟨P, 0, none⟩ b) gs cvs S sv pv :=
  (h.set (Nat.le_refl _) 0 b).mono (by simp)
theorem parse_o (p : Bs) : parse p = (parseGo p.length p 0 0 [] []).bind fun TU => (metaFwd (cmpBack (markLast TU.1)).1).bind fun M => if 30 < TU.2.length then none else some (M, TU.2) := by
  unfold parse
  cases parseGo p.length p 0 0 [] [] with
  | none => rfl
  | some TU =>
    obtain ⟨T, U⟩ := TU
    simp only [Option.bind_some]
    cases metaFwd (cmpBack (markLast T)).1 <;> rfl

set_option maxHeartbeats 4000000 in
set_option maxRecDepth 100000 in
theorem parse_most (s : ByteArray) (B : Nat) (w : World) (hs : s.size ≤ 1000000) (h0 : 0 < s.size) (hBw : B ≤ w.heap.size) (htab : Lib.TabBelow Tryz.prog B w "internal/strconv.uint64pow10" .u64 Lib.pow10Tab) :
    Calls Tryz.prog 43 #[.string s] w (ParsedD w (parse s.data.toList)) := by
  obtain ⟨R, hR⟩ : ∃ R, R = parse s.data.toList := ⟨_, rfl⟩
  rw [← hR]
  obtain ⟨O, hO⟩ : ∃ O, O = parseGo s.data.toList.length s.data.toList 0 0 [] [] := ⟨_, rfl⟩
  have HRO := Lib.hid (show R = O.bind fun TU => (metaFwd (cmpBack (markLast TU.1)).1).bind fun M => if 30 < TU.2.length then none else some (M, TU.2) by rw [hR, hO]; exact parse_o _)
  have HO := Lib.hid hO
  clear hR hO
  obtain ⟨w0, hw0⟩ : ∃ w0, w0 = w.alloc (Obj.cells #[Value.slice none 0 0, Value.slice none 0 0, Value.int IntKind.i64 0, Value.int IntKind.i64 0] 79) := ⟨_, rfl⟩
  have HB0 := Lib.hid (show Below B w w0 by rw [hw0]; exact (Below.refl _ _).alloc hBw _)
  have HW00 := Lib.hid (show Below w.heap.size w w0 by rw [hw0]; exact (Below.refl _ _).alloc (Nat.le_refl _) _)
  have HTAB := Lib.hid htab
  clear htab
  go_enter Tryz.func43, Tryz.ntmps43
  go_upto_block 0 with fail
  rw [← hw0]
  have hP : w0.heap.size = w.heap.size + 1 := by rw [hw0]; simp
  have HW0 := Lib.hid hw0
  clear hw0
  rw [← hP]
  have HP := Lib.hid hP
  have hwp : w.heap.size < w0.heap.size := by omega
  clear hP
  go_cut [0, 5, 6, 7, 8, 9, 10] from 12 to 62 (fun _ _ _ _ _ _ _ wx => ∃ st pl gs cvs sv pv T U, O = some (T, U) ∧ PSc w0 wx w0.heap.size gs cvs T U st pl sv pv ∧ Fresh s.size T ∧ T.length ≤ s.size ∧ U.length ≤ s.size ∧ 0 < T.length ∧ Held w0.heap.size wx.heap.size wx gs cvs T sv pv)
  case first =>
    go_wp2_with fail
    go_loopw [0] (fun a wr => ∃ (r : ByteArray) (fu st pl : Nat) (gs : List Nat) (cvs : List Value) (S : List Seg) (Nm : List Bs) (sv pv : Value), a = .string r ∧ PLd w0 s O r wr fu st pl gs cvs S Nm sv pv) (fun a _ => strSize a)
    case atStart =>
      refine ⟨s, s.size, 0, 0, [], [], [], [], .slice none 0 0, .slice none 0 0, rfl, Nat.le_refl _, Nat.le_refl _, ⟨?_, ?_⟩, ?_, ?_, by intro x hx; simp at hx, by omega, by omega, by simp, by simp, by omega⟩
      · show (w0.heap.push _)[w0.heap.size]? = _
        simp
      · exact ⟨World.ownsRow_nil _ _ _ _, World.ownsRow_nil _ _ _ _, by intro k h; simp [Value.ownBlock] at h, ⟨rfl, rfl, by intro i x hx; simp at hx⟩, List.nodup_nil, by simp, (Below.refl _ _).alloc (Nat.le_refl _) _, Nat.le_refl _⟩
      · have := HO.out; rw [size_data] at this; exact this.symm
      · intro i x g cv h; simp at h
    case round =>
      obtain ⟨r, fu, st, pl, gs, cvs, S, Nm, sv, pv, rfl, hpl⟩ := hrel
      have HPL := Lib.hid hpl
      clear hpl
      have hrs : r.size ≤ s.size := HPL.out.size
      by_cases hr : r.size = 0
      · have hfin : O = some (S, Nm) := by
          have h1 : r.data.toList = [] := List.length_eq_zero_iff.1 (by rw [size_data]; exact hr)
          have h2 := HPL.out.go
          rw [h1, go_step_end] at h2
          exact h2.symm
        have HF := Lib.hid hfin
        clear hfin
        go_wp2_with fail
        go_meet
        case rel =>
          exact ⟨st, pl, gs, cvs, sv, pv, S, Nm, HF.out, HPL.out.ps, HPL.out.fresh, by have := HPL.out.segs; omega, by have := HPL.out.nms; omega, HPL.out.any (by omega), HPL.out.held⟩
      · have hr1 : 0 < r.size := by omega
        clear hr
        have hfu : fu = (fu - 1) + 1 := by have := HPL.out.fsz; omega
        obtain ⟨fv, hfv⟩ : ∃ fv, fv = fu - 1 := ⟨_, rfl⟩
        have HFV := Lib.hid (show fu = fv + 1 by omega)
        clear hfu hfv
        go_wp2_with fail
        refine (paramPos_any r _ (by omega)).mono ?_
        rintro e w1 ⟨rfl, hb1⟩
        have HB1 := Lib.hid hb1
        clear hb1
        go_upto_if 19 with fail
        go_cut [5, 6, 7, 8, 9, 10, 17, 18, 19] from 20 to 53 (fun v _ _ _ _ _ _ _ _ wx => ∃ q x st' pl' Nm' gs' cvs' sv' pv', v = .string (bs q) ∧ PHd w0 s O r wx fv st' pl' q gs' cvs' (S ++ [x]) Nm' sv' pv')
        case first =>
          by_cases hp : paramPos r.data.toList = some 0
          · have HPP := Lib.hid hp
            clear hp
            rw [HPP.out, oi_some]
            have hb1 := HB1.out
            have hPo := (hb1.block _ (lt_of_obj HPL.out.ps.1)).trans HPL.out.ps.1
            have hst := HPL.out.st1
            have hpl1 := HPL.out.pl1
            have htab1 : Lib.TabBelow Tryz.prog B w1 "internal/strconv.uint64pow10" .u64 Lib.pow10Tab := HTAB.out.on ((HB0.out.trans (HPL.out.ps.2.old.mono (by have := HB0.out.size; omega))).trans (hb1.mono (by have := HB0.out.size; have := HPL.out.ps.2.old.size; omega)))
            have hcall := part_any r B w0.heap.size st pl sv pv w1 (by omega) hr1 (by omega) (by omega) hPo (by have := HB0.out.size; omega) (by have := HB0.out.size; have := HPL.out.ps.2.old.size; have := hb1.size; omega) htab1
            have HCALL := Lib.hid hcall
            clear hcall hPo htab1
            rcases hpt : paramPart r.data.toList st pl with _ | ⟨q, x, st', pl'⟩
            · have HPT := Lib.hid hpt
              have hcall2 := HCALL.out
              rw [hpt] at hcall2
              have HC2 := Lib.hid hcall2
              have HDN := Lib.hid (show R = none by
                have h1 := HPL.out.go
                rw [HFV.out, step_none HPP.out hpt (by intro e; have := size_data r; rw [e] at this; simp at this; omega)] at h1
                rw [HRO.out, ← h1]; rfl)
              clear hcall2 hpt HCALL
              go_wp2_with fail
              refine HC2.out.mono ?_
              rintro e w2 ⟨⟨dT, dx, rfl⟩, hgr⟩
              have hbl : Below w.heap.size w w2 := by
                have h1 := HW00.out
                have h2 := HPL.out.ps.2.old
                have h3 := (h1.trans (h2.mono h1.size)).trans (hb1.mono (by have := h1.size; have := h2.size; omega))
                exact ⟨hgr.os.trans h3.os, hgr.tape.trans h3.tape, hgr.output.trans h3.output, Nat.le_trans h3.size hgr.size, fun k hk => (hgr.block k (by have := h3.size; omega) (fun e => by cases e; omega)).trans (h3.block k hk)⟩
              have HBL := Lib.hid hbl
              clear hbl hgr
              go_wp2_with fail
              refine ⟨rfl, ?_⟩
              rw [HDN.out]
              exact ⟨⟨_, _, rfl⟩, HBL.out⟩
            have hcall2 := HCALL.out
            rw [hpt] at hcall2
            have HC2 := Lib.hid hcall2
            have HPART := Lib.hid hpt
            clear hcall2 hpt HCALL
            go_wp2_with fail
            refine HC2.out.mono ?_
            rintro e w2 ⟨g, cv, rfl, hg, ho, hgr, hob, hcon⟩
            have hpf := paramPart_facts HPART.out
            have HF := Lib.hid hpf
            have hold := HPL.out.ps.2
            have hpn : PNd w1.heap.size w2.heap.size w2 w0 w2 w0.heap.size gs cvs S Nm #[sv, pv, .int .i64 (st' : Nat), .int .i64 (pl' : Nat)] sv pv g x cv := by
              have hw1 := hb1.size
              have hPl := lt_of_obj HPL.out.ps.1
              exact ⟨⟨hob, (hold.below hb1).own hgr, ho, fun hm => by have := hold.inn.lt hm; omega, by omega, fun e => by have := (hold.segs.lt _ e).2; omega, fun e => by have := (hold.names.lt _ e).2; omega, fun _ _ _ => rfl, Nat.le_refl _, fun k hk => .inl (by have := (hold.segs.lt _ hk).2; omega), fun k hk => .inl (by have := (hold.names.lt _ hk).2; omega), by omega⟩, ((HPL.out.held.below (Nat.le_refl _) hb1).mono hb1.size).step (row := some w0.heap.size) (Nat.le_refl _) hgr (by intro k hk; cases hk; exact .inl (Nat.le_refl _)), fun g' hm => by have := hold.inn.lt hm; omega, hg, ⟨rfl, hcon⟩⟩
            have hNm := HPL.out.nms
            have hSs := HPL.out.segs
            have hgl : gs.length = S.length := hold.inn.1
            have hgs1 : gs.length ≤ 1000000 := by omega
            have hNm1 : Nm.length ≤ 1000000 := by omega
            have hbase : w0.heap.size + 1 ≤ w2.heap.size := lt_of_obj hob
            have hrow := fun k (e : pv.ownBlock = some k) => (hpn.pr.names.lt k e).2
            have HROW := Lib.hid hrow
            have HPN := Lib.hid hpn
            have HPD := Lib.hid (hpn.below (Below.refl _ _).drew)
            have c0 := obj_cell (i := 0) hob rfl
            have c1 := obj_cell (i := 1) hob rfl
            have f0 := obj_free (i := 0) hob
            have f1 := obj_free (i := 1) hob
            have cn := ho.cell 2 _ rfl
            have a0 : ∀ o, (w2.alloc o).cell? ⟨w0.heap.size, 0, none⟩ = some sv := fun o => obj_cell (HPN.out.alloc o).obj rfl
            have a1 : ∀ o, (w2.alloc o).cell? ⟨w0.heap.size, 1, none⟩ = some pv := fun o => obj_cell (HPN.out.alloc o).obj rfl
            have an : ∀ o, (w2.alloc o).cell? ⟨g, 2, none⟩ = some (.string (bs x.name)) := fun o => (HPN.out.alloc o).so.cell 2 _ rfl
            have b0 : ∀ o o', ((w2.alloc o).alloc o').cell? ⟨w0.heap.size, 0, none⟩ = some sv := fun o o' => obj_cell ((HPN.out.alloc o).alloc o').obj rfl
            have b1 : ∀ o o', ((w2.alloc o).alloc o').cell? ⟨w0.heap.size, 1, none⟩ = some pv := fun o o' => obj_cell ((HPN.out.alloc o).alloc o').obj rfl
            have bn : ∀ o o', ((w2.alloc o).alloc o').cell? ⟨g, 2, none⟩ = some (.string (bs x.name)) := fun o o' => ((HPN.out.alloc o).alloc o').so.cell 2 _ rfl
            obtain ⟨i9, hi9, hz90, hz91, hz92⟩ := info_parts info9
            obtain ⟨i96, hi96, hz960, hz961, hz962⟩ := info_parts info96
            clear hpn hob hcon hpf HC2 ho hgr hg hgl hNm hSs hb1 hold hrow
            go_upto_region 8 with fail
            refine wp_region_any (by kernel_rfl) ?_
            refine AnyN.plain (S := fun v => v.cell? ⟨w0.heap.size, 0, none⟩ = some sv ∧ v.cell? ⟨w0.heap.size, 1, none⟩ = some pv ∧ v.cell? ⟨g, 2, none⟩ = some (.string (bs x.name))) (need := fun j => j == 1 || j == 5 || j == 6 || j == 7 || j == 9 || j == 11 || j == 12) _ _ _ _ ?_
            change AnyN _ _ _ _ _ _ _ _ _ (World.drew w2)
            refine AnyN.take (i := 0) (x := .pointer (some ⟨w0.heap.size, 1, none⟩)) rfl (by kernel_rfl) (by kernel_rfl) (by kernel_rfl) rfl (fun _ _ _ h => h) (Or.inl ⟨by rfl, fun v => by go_simp⟩) ?_
            try simp only [List.getElem_toArray, List.getElem_cons_zero, Act.put, List.setIfInBounds_toArray, List.set_cons_zero, List.set_cons_succ]
            refine AnyN.take (i := 2) (x := .pointer (some ⟨g, 0, none⟩)) rfl (by kernel_rfl) (by kernel_rfl) (by kernel_rfl) rfl (fun _ _ _ h => h) (Or.inl ⟨by rfl, fun v => by go_simp⟩) ?_
            try simp only [List.getElem_toArray, List.getElem_cons_zero, List.getElem_cons_succ, Act.put, List.setIfInBounds_toArray, List.set_cons_zero, List.set_cons_succ]
            refine AnyN.take (i := 3) (x := .pointer (some ⟨g, 0, none⟩)) rfl (by kernel_rfl) (by kernel_rfl) (by kernel_rfl) rfl (fun _ _ _ h => h) (Or.inl ⟨by rfl, fun v => by go_simp⟩) ?_
            try simp only [List.getElem_toArray, List.getElem_cons_zero, List.getElem_cons_succ, Act.put, List.setIfInBounds_toArray, List.set_cons_zero, List.set_cons_succ]
            refine AnyN.take (i := 4) (x := .pointer (some ⟨g, 2, none⟩)) rfl (by kernel_rfl) (by kernel_rfl) (by kernel_rfl) rfl (fun _ _ _ h => h) (Or.inl ⟨by rfl, fun v => by go_simp⟩) ?_
            try simp only [List.getElem_toArray, List.getElem_cons_zero, List.getElem_cons_succ, Act.put, List.setIfInBounds_toArray, List.set_cons_zero, List.set_cons_succ]
            refine AnyN.take (i := 8) (x := .pointer (some ⟨w0.heap.size, 0, none⟩)) rfl (by kernel_rfl) (by kernel_rfl) (by kernel_rfl) rfl (fun _ _ _ h => h) (Or.inl ⟨by rfl, fun v => by go_simp⟩) ?_
            try simp only [List.getElem_toArray, List.getElem_cons_zero, List.getElem_cons_succ, Act.put, List.setIfInBounds_toArray, List.set_cons_zero, List.set_cons_succ]
            refine AnyN.take (i := 10) (x := .pointer (some ⟨g, 0, none⟩)) rfl (by kernel_rfl) (by kernel_rfl) (by kernel_rfl) rfl (fun _ _ _ h => h) (Or.inl ⟨by rfl, fun v => by go_simp⟩) ?_
            try simp only [List.getElem_toArray, List.getElem_cons_zero, List.getElem_cons_succ, Act.put, List.setIfInBounds_toArray, List.set_cons_zero, List.set_cons_succ]
            refine AnyN.take (i := 13) (x := .string (bs q)) rfl (by kernel_rfl) (by kernel_rfl) (by kernel_rfl) rfl (fun _ _ _ h => h) (Or.inl ⟨by rfl, fun v => by go_simp⟩) ?_
            try simp only [List.getElem_toArray, List.getElem_cons_zero, List.getElem_cons_succ, Act.put, List.setIfInBounds_toArray, List.set_cons_zero, List.set_cons_succ]
            refine AnyN.load (i := 1) (x := pv) rfl (by kernel_rfl) (by kernel_rfl) (by kernel_rfl) (by kernel_rfl) (fun _ _ _ h => h) (Or.inl ⟨by rfl, fun v hv => by obtain ⟨v0, v1, v2⟩ := hv; go_simp⟩) HPD.out.cells ?_
            try simp only [List.getElem_toArray, List.getElem_cons_zero, List.getElem_cons_succ, Act.put, List.setIfInBounds_toArray, List.set_cons_zero, List.set_cons_succ]
            refine AnyN.load (i := 5) (x := .string (bs x.name)) rfl (by kernel_rfl) (by kernel_rfl) (by kernel_rfl) (by kernel_rfl) (fun _ _ _ h => h) (Or.inl ⟨by rfl, fun v hv => by obtain ⟨v0, v1, v2⟩ := hv; go_simp⟩) HPD.out.cells ?_
            try simp only [List.getElem_toArray, List.getElem_cons_zero, List.getElem_cons_succ, Act.put, List.setIfInBounds_toArray, List.set_cons_zero, List.set_cons_succ]
            refine AnyN.load (i := 9) (x := sv) rfl (by kernel_rfl) (by kernel_rfl) (by kernel_rfl) (by kernel_rfl) (fun _ _ _ h => h) (Or.inl ⟨by rfl, fun v hv => by obtain ⟨v0, v1, v2⟩ := hv; go_simp⟩) HPD.out.cells ?_
            try simp only [List.getElem_toArray, List.getElem_cons_zero, List.getElem_cons_succ, Act.put, List.setIfInBounds_toArray, List.set_cons_zero, List.set_cons_succ]
            refine AnyN.all (rs := [6, 11]) (by kernel_rfl) (by simp) (two_of ?_ ?_)
            · skip
              refine op_via rfl rfl (fun K hK => ?_)
              try simp only [List.getElem_toArray, List.getElem_cons_zero, List.getElem_cons_succ]
              go_simp
              refine hK _ _ ⟨fun _ => PNd.cells (by first | exact HPD.out.alloc _ | exact (HPD.out.alloc _).alloc _ | exact HN3.out.alloc _), ?_⟩
              clear hK K
              try simp only [List.getElem_toArray, List.getElem_cons_zero, List.getElem_cons_succ, Act.put, List.setIfInBounds_toArray, List.set_cons_zero, List.set_cons_succ]
              refine AnyN.all (rs := [7, 11]) (by kernel_rfl) (by simp) (two_of ?_ ?_)
              · skip
                refine op_via rfl rfl (fun K hK => ?_)
                refine wp_append_lies _ (.tmp 26) (.tmp 31) 22 rfl (w0.heap.size + 1) 9 i9 (.string ⟨#[]⟩) 1 16 Tryz.underlying22 hi9 hz90 hz91 hz92 rfl (by decide) pv Nm.length (svals Nm) (by rfl) (by first | exact (HPD.out.alloc _).pr.names | exact ((HPD.out.alloc _).alloc _).pr.names) ⟨_, 0, none⟩ 1 1 [.string (bs x.name)] (by rfl) rfl (by intro j u hu; obtain ⟨rfl, rfl⟩ := one_at hu; rw [add_cell, Nat.zero_add]; simp [cell_alloc, objCell]) (svals_one [x.name]) (by omega) (by simp [maxLen]; omega) (by omega) (by have := hbase; simp; omega) _ (by rfl) ?_
                intro g3 cap3 w3 hown3 hgrow3 hat3 hlt3
                have hpn3 := PNd.name (by first | exact HPD.out.alloc _ | exact (HPD.out.alloc _).alloc _) hown3 hgrow3 hat3 rfl
                have HN3 := Lib.hid hpn3
                have HGR := Lib.hid hgrow3
                refine hK _ _ ⟨fun _ => hpn3.cells, ?_⟩
                clear hK K hpn3 hown3 hgrow3 hat3
                try simp only [List.getElem_toArray, List.getElem_cons_zero, List.getElem_cons_succ, Act.put, List.setIfInBounds_toArray, List.set_cons_zero, List.set_cons_succ]
                refine AnyN.all (rs := [11]) (by kernel_rfl) (by simp) (one_of ?_)
                refine op_via rfl rfl (fun K hK => ?_)
                try simp only [List.getElem_toArray, List.getElem_cons_zero, List.getElem_cons_succ]
                go_simp
                refine hK _ _ ⟨fun _ => PNd.cells (by first | exact HPD.out.alloc _ | exact (HPD.out.alloc _).alloc _ | exact HN3.out.alloc _), ?_⟩
                clear hK K
                try simp only [List.getElem_toArray, List.getElem_cons_zero, List.getElem_cons_succ, Act.put, List.setIfInBounds_toArray, List.set_cons_zero, List.set_cons_succ]
                refine AnyN.all (rs := [12]) (by kernel_rfl) (by simp) (one_of ?_)
                refine op_via rfl rfl (fun K hK => ?_)
                refine wp_append_lies _ (.tmp 34) (.tmp 36) 77 rfl (w0.heap.size + 1) 96 i96 (.pointer none) 1 8 Tryz.underlying77 hi96 hz960 hz961 hz962 rfl (by decide) sv gs.length (ptrs gs) (by rfl) (by first | exact HN3.out.pr.segs | exact (HN3.out.alloc _).pr.segs) ⟨_, 0, none⟩ 1 1 [.pointer (some ⟨g, 0, none⟩)] (by rfl) rfl (by intro j u hu; obtain ⟨rfl, rfl⟩ := one_at hu; rw [add_cell, Nat.zero_add]; first | (simp [cell_alloc, objCell]; done) | (refine (HGR.out.cell_far _ (by simp <;> omega) (fun e => absurd (HROW.out _ e.symm) (by simp <;> omega))).trans (by simp [cell_alloc, objCell]))) (ptrs_one [g]) (by omega) (by simp [maxLen]; omega) (by omega) (by have := lt_of_obj HN3.out.obj; simp; omega) _ (by rfl) ?_
                intro g4 cap4 w4 hown4 hgrow4 hat4 hlt4
                have hps4 := PNd.seg (by first | exact HN3.out | exact HN3.out.alloc _) hown4 hgrow4 hat4 rfl
                have hcn4 := (PNd.so_keep (by first | exact HN3.out | exact HN3.out.alloc _) hgrow4).cell 2 _ rfl
                have c0'' := obj_cell (i := 0) hps4.1 rfl
                have c1'' := obj_cell (i := 1) hps4.1 rfl
                have f0'' := obj_free (i := 0) hps4.1
                have f1'' := obj_free (i := 1) hps4.1
                have HP4 := Lib.hid hps4
                refine hK _ _ ⟨fun _ => ⟨c0'', c1'', hcn4⟩, ?_⟩
                clear hK K hps4 hown4 hgrow4 hat4 hcn4
                try simp only [List.getElem_toArray, List.getElem_cons_zero, List.getElem_cons_succ, Act.put, List.setIfInBounds_toArray, List.set_cons_zero, List.set_cons_succ]
                refine AnyN.all (rs := [14]) (by kernel_rfl) (by simp) (one_of ?_)
                refine op_via rfl rfl (fun K hK => ?_)
                try simp only [List.getElem_toArray, List.getElem_cons_zero, List.getElem_cons_succ]
                go_simp
                refine hK _ _ ⟨fun h => absurd h (by decide), ?_⟩
                clear hK K
                try simp only [List.getElem_toArray, List.getElem_cons_zero, List.getElem_cons_succ, Act.put, List.setIfInBounds_toArray, List.set_cons_zero, List.set_cons_succ]
                refine AnyN.all (rs := [15]) (by kernel_rfl) (by simp) (one_of ?_)
                refine op_via rfl rfl (fun K hK => ?_)
                try simp only [List.getElem_toArray, List.getElem_cons_zero, List.getElem_cons_succ]
                go_simp
                refine hK _ _ ⟨fun h => absurd h (by decide), ?_⟩
                clear hK K
                try simp only [List.getElem_toArray, List.getElem_cons_zero, List.getElem_cons_succ, Act.put, List.setIfInBounds_toArray, List.set_cons_zero, List.set_cons_succ]
                refine AnyN.all (rs := [16]) (by kernel_rfl) (by simp) (one_of ?_)
                refine op_via rfl rfl (fun K hK => ?_)
                try simp only [List.getElem_toArray, List.getElem_cons_zero, List.getElem_cons_succ]
                go_simp
                refine hK _ _ ⟨fun h => absurd h (by decide), ?_⟩
                clear hK K
                try simp only [List.getElem_toArray, List.getElem_cons_zero, List.getElem_cons_succ, Act.put, List.setIfInBounds_toArray, List.set_cons_zero, List.set_cons_succ]
                refine AnyN.all (rs := [17]) (by kernel_rfl) (by simp) (one_of ?_)
                refine op_via rfl rfl (fun K hK => ?_)
                try simp only [List.getElem_toArray, List.getElem_cons_zero, List.getElem_cons_succ]
                go_simp
                refine hK _ _ ⟨fun h => absurd h (by decide), ?_⟩
                clear hK K
                try simp only [List.getElem_toArray, List.getElem_cons_zero, List.getElem_cons_succ, Act.put, List.setIfInBounds_toArray, List.set_cons_zero, List.set_cons_succ]
                refine AnyN.all (rs := [18]) (by kernel_rfl) (by simp) (one_of ?_)
                refine op_via rfl rfl (fun K hK => ?_)
                try simp only [List.getElem_toArray, List.getElem_cons_zero, List.getElem_cons_succ]
                go_simp
                refine hK _ _ ⟨fun h => absurd h (by decide), ?_⟩
                clear hK K
                try simp only [List.getElem_toArray, List.getElem_cons_zero, List.getElem_cons_succ, Act.put, List.setIfInBounds_toArray, List.set_cons_zero, List.set_cons_succ]
                refine AnyN.fin (by kernel_rfl) ?_ _
                go_wp2_with fail
                go_meet
                case rel =>
                  refine ⟨q, x, st', pl', Nm ++ [x.name], gs ++ [g], cvs ++ [cv], .slice (some ⟨g4, 0, none⟩) (gs.length + 1) cap4, .slice (some ⟨g3, 0, none⟩) (Nm.length + 1) cap3, rfl, ?_⟩
                  have h1 := HPL.out.go
                  rw [HFV.out, step_param2 HPP.out HPART.out (by intro e; have := size_data r; rw [e] at this; simp at this; omega)] at h1
                  have hq := HF.out.1
                  have hq1 : 1 ≤ q.length := by rw [hq, List.length_take, size_data]; omega
                  have hq2 : q.length ≤ r.size := by rw [hq, List.length_take, size_data]; omega
                  have hf := HF.out.2
                  exact ⟨hq1, hq2, by have := HPL.out.fsz; have := HFV.out; omega, psc_stored ⟨HP4.out.1, HP4.out.2.1⟩, h1, held_stored HP4.out.2.2 _ _, HPL.out.fresh.snoc (by rw [hf.1]; simp) hf.2.1 hf.2.2.1, by have := HPL.out.st1; have := hf.2.2.2.2.1; omega, by have := HPL.out.pl1; have := hf.2.2.2.2.2; omega, by have := HPL.out.segs; simp; omega, by have := HPL.out.nms; simp; omega, by simp⟩
              · skip
                refine op_via rfl rfl (fun K hK => ?_)
                try simp only [List.getElem_toArray, List.getElem_cons_zero, List.getElem_cons_succ]
                go_simp
                refine hK _ _ ⟨fun _ => PNd.cells (by first | exact HPD.out.alloc _ | exact (HPD.out.alloc _).alloc _ | exact HN3.out.alloc _), ?_⟩
                clear hK K
                try simp only [List.getElem_toArray, List.getElem_cons_zero, List.getElem_cons_succ, Act.put, List.setIfInBounds_toArray, List.set_cons_zero, List.set_cons_succ]
                refine AnyN.all (rs := [7]) (by kernel_rfl) (by simp) (one_of ?_)
                refine op_via rfl rfl (fun K hK => ?_)
                refine wp_append_lies _ (.tmp 26) (.tmp 31) 22 rfl (w0.heap.size + 1) 9 i9 (.string ⟨#[]⟩) 1 16 Tryz.underlying22 hi9 hz90 hz91 hz92 rfl (by decide) pv Nm.length (svals Nm) (by rfl) (by first | exact (HPD.out.alloc _).pr.names | exact ((HPD.out.alloc _).alloc _).pr.names) ⟨_, 0, none⟩ 1 1 [.string (bs x.name)] (by rfl) rfl (by intro j u hu; obtain ⟨rfl, rfl⟩ := one_at hu; rw [add_cell, Nat.zero_add]; simp [cell_alloc, objCell]) (svals_one [x.name]) (by omega) (by simp [maxLen]; omega) (by omega) (by have := hbase; simp; omega) _ (by rfl) ?_
                intro g3 cap3 w3 hown3 hgrow3 hat3 hlt3
                have hpn3 := PNd.name (by first | exact HPD.out.alloc _ | exact (HPD.out.alloc _).alloc _) hown3 hgrow3 hat3 rfl
                have HN3 := Lib.hid hpn3
                have HGR := Lib.hid hgrow3
                refine hK _ _ ⟨fun _ => hpn3.cells, ?_⟩
                clear hK K hpn3 hown3 hgrow3 hat3
                try simp only [List.getElem_toArray, List.getElem_cons_zero, List.getElem_cons_succ, Act.put, List.setIfInBounds_toArray, List.set_cons_zero, List.set_cons_succ]
                refine AnyN.all (rs := [12]) (by kernel_rfl) (by simp) (one_of ?_)
                refine op_via rfl rfl (fun K hK => ?_)
                refine wp_append_lies _ (.tmp 34) (.tmp 36) 77 rfl (w0.heap.size + 1) 96 i96 (.pointer none) 1 8 Tryz.underlying77 hi96 hz960 hz961 hz962 rfl (by decide) sv gs.length (ptrs gs) (by rfl) (by first | exact HN3.out.pr.segs | exact (HN3.out.alloc _).pr.segs) ⟨_, 0, none⟩ 1 1 [.pointer (some ⟨g, 0, none⟩)] (by rfl) rfl (by intro j u hu; obtain ⟨rfl, rfl⟩ := one_at hu; rw [add_cell, Nat.zero_add]; first | (simp [cell_alloc, objCell]; done) | (refine (HGR.out.cell_far _ (by simp <;> omega) (fun e => absurd (HROW.out _ e.symm) (by simp <;> omega))).trans (by simp [cell_alloc, objCell]))) (ptrs_one [g]) (by omega) (by simp [maxLen]; omega) (by omega) (by have := lt_of_obj HN3.out.obj; simp; omega) _ (by rfl) ?_
                intro g4 cap4 w4 hown4 hgrow4 hat4 hlt4
                have hps4 := PNd.seg (by first | exact HN3.out | exact HN3.out.alloc _) hown4 hgrow4 hat4 rfl
                have hcn4 := (PNd.so_keep (by first | exact HN3.out | exact HN3.out.alloc _) hgrow4).cell 2 _ rfl
                have c0'' := obj_cell (i := 0) hps4.1 rfl
                have c1'' := obj_cell (i := 1) hps4.1 rfl
                have f0'' := obj_free (i := 0) hps4.1
                have f1'' := obj_free (i := 1) hps4.1
                have HP4 := Lib.hid hps4
                refine hK _ _ ⟨fun _ => ⟨c0'', c1'', hcn4⟩, ?_⟩
                clear hK K hps4 hown4 hgrow4 hat4 hcn4
                try simp only [List.getElem_toArray, List.getElem_cons_zero, List.getElem_cons_succ, Act.put, List.setIfInBounds_toArray, List.set_cons_zero, List.set_cons_succ]
                refine AnyN.all (rs := [14]) (by kernel_rfl) (by simp) (one_of ?_)
                refine op_via rfl rfl (fun K hK => ?_)
                try simp only [List.getElem_toArray, List.getElem_cons_zero, List.getElem_cons_succ]
                go_simp
                refine hK _ _ ⟨fun h => absurd h (by decide), ?_⟩
                clear hK K
                try simp only [List.getElem_toArray, List.getElem_cons_zero, List.getElem_cons_succ, Act.put, List.setIfInBounds_toArray, List.set_cons_zero, List.set_cons_succ]
                refine AnyN.all (rs := [15]) (by kernel_rfl) (by simp) (one_of ?_)
                refine op_via rfl rfl (fun K hK => ?_)
                try simp only [List.getElem_toArray, List.getElem_cons_zero, List.getElem_cons_succ]
                go_simp
                refine hK _ _ ⟨fun h => absurd h (by decide), ?_⟩
                clear hK K
                try simp only [List.getElem_toArray, List.getElem_cons_zero, List.getElem_cons_succ, Act.put, List.setIfInBounds_toArray, List.set_cons_zero, List.set_cons_succ]
                refine AnyN.all (rs := [16]) (by kernel_rfl) (by simp) (one_of ?_)
                refine op_via rfl rfl (fun K hK => ?_)
                try simp only [List.getElem_toArray, List.getElem_cons_zero, List.getElem_cons_succ]
                go_simp
                refine hK _ _ ⟨fun h => absurd h (by decide), ?_⟩
                clear hK K
                try simp only [List.getElem_toArray, List.getElem_cons_zero, List.getElem_cons_succ, Act.put, List.setIfInBounds_toArray, List.set_cons_zero, List.set_cons_succ]
                refine AnyN.all (rs := [17]) (by kernel_rfl) (by simp) (one_of ?_)
                refine op_via rfl rfl (fun K hK => ?_)
                try simp only [List.getElem_toArray, List.getElem_cons_zero, List.getElem_cons_succ]
                go_simp
                refine hK _ _ ⟨fun h => absurd h (by decide), ?_⟩
                clear hK K
                try simp only [List.getElem_toArray, List.getElem_cons_zero, List.getElem_cons_succ, Act.put, List.setIfInBounds_toArray, List.set_cons_zero, List.set_cons_succ]
                refine AnyN.all (rs := [18]) (by kernel_rfl) (by simp) (one_of ?_)
                refine op_via rfl rfl (fun K hK => ?_)
                try simp only [List.getElem_toArray, List.getElem_cons_zero, List.getElem_cons_succ]
                go_simp
                refine hK _ _ ⟨fun h => absurd h (by decide), ?_⟩
                clear hK K
                try simp only [List.getElem_toArray, List.getElem_cons_zero, List.getElem_cons_succ, Act.put, List.setIfInBounds_toArray, List.set_cons_zero, List.set_cons_succ]
                refine AnyN.fin (by kernel_rfl) ?_ _
                go_wp2_with fail
                go_meet
                case rel =>
                  refine ⟨q, x, st', pl', Nm ++ [x.name], gs ++ [g], cvs ++ [cv], .slice (some ⟨g4, 0, none⟩) (gs.length + 1) cap4, .slice (some ⟨g3, 0, none⟩) (Nm.length + 1) cap3, rfl, ?_⟩
                  have h1 := HPL.out.go
                  rw [HFV.out, step_param2 HPP.out HPART.out (by intro e; have := size_data r; rw [e] at this; simp at this; omega)] at h1
                  have hq := HF.out.1
                  have hq1 : 1 ≤ q.length := by rw [hq, List.length_take, size_data]; omega
                  have hq2 : q.length ≤ r.size := by rw [hq, List.length_take, size_data]; omega
                  have hf := HF.out.2
                  exact ⟨hq1, hq2, by have := HPL.out.fsz; have := HFV.out; omega, psc_stored ⟨HP4.out.1, HP4.out.2.1⟩, h1, held_stored HP4.out.2.2 _ _, HPL.out.fresh.snoc (by rw [hf.1]; simp) hf.2.1 hf.2.2.1, by have := HPL.out.st1; have := hf.2.2.2.2.1; omega, by have := HPL.out.pl1; have := hf.2.2.2.2.2; omega, by have := HPL.out.segs; simp; omega, by have := HPL.out.nms; simp; omega, by simp⟩
            · skip
              refine op_via rfl rfl (fun K hK => ?_)
              try simp only [List.getElem_toArray, List.getElem_cons_zero, List.getElem_cons_succ]
              go_simp
              refine hK _ _ ⟨fun _ => PNd.cells (by first | exact HPD.out.alloc _ | exact (HPD.out.alloc _).alloc _ | exact HN3.out.alloc _), ?_⟩
              clear hK K
              try simp only [List.getElem_toArray, List.getElem_cons_zero, List.getElem_cons_succ, Act.put, List.setIfInBounds_toArray, List.set_cons_zero, List.set_cons_succ]
              refine AnyN.all (rs := [6]) (by kernel_rfl) (by simp) (one_of ?_)
              refine op_via rfl rfl (fun K hK => ?_)
              try simp only [List.getElem_toArray, List.getElem_cons_zero, List.getElem_cons_succ]
              go_simp
              refine hK _ _ ⟨fun _ => PNd.cells (by first | exact HPD.out.alloc _ | exact (HPD.out.alloc _).alloc _ | exact HN3.out.alloc _), ?_⟩
              clear hK K
              try simp only [List.getElem_toArray, List.getElem_cons_zero, List.getElem_cons_succ, Act.put, List.setIfInBounds_toArray, List.set_cons_zero, List.set_cons_succ]
              refine AnyN.all (rs := [7]) (by kernel_rfl) (by simp) (one_of ?_)
              refine op_via rfl rfl (fun K hK => ?_)
              refine wp_append_lies _ (.tmp 26) (.tmp 31) 22 rfl (w0.heap.size + 1) 9 i9 (.string ⟨#[]⟩) 1 16 Tryz.underlying22 hi9 hz90 hz91 hz92 rfl (by decide) pv Nm.length (svals Nm) (by rfl) (by first | exact (HPD.out.alloc _).pr.names | exact ((HPD.out.alloc _).alloc _).pr.names) ⟨_, 0, none⟩ 1 1 [.string (bs x.name)] (by rfl) rfl (by intro j u hu; obtain ⟨rfl, rfl⟩ := one_at hu; rw [add_cell, Nat.zero_add]; simp [cell_alloc, objCell]) (svals_one [x.name]) (by omega) (by simp [maxLen]; omega) (by omega) (by have := hbase; simp; omega) _ (by rfl) ?_
              intro g3 cap3 w3 hown3 hgrow3 hat3 hlt3
              have hpn3 := PNd.name (by first | exact HPD.out.alloc _ | exact (HPD.out.alloc _).alloc _) hown3 hgrow3 hat3 rfl
              have HN3 := Lib.hid hpn3
              have HGR := Lib.hid hgrow3
              refine hK _ _ ⟨fun _ => hpn3.cells, ?_⟩
              clear hK K hpn3 hown3 hgrow3 hat3
              try simp only [List.getElem_toArray, List.getElem_cons_zero, List.getElem_cons_succ, Act.put, List.setIfInBounds_toArray, List.set_cons_zero, List.set_cons_succ]
              refine AnyN.all (rs := [12]) (by kernel_rfl) (by simp) (one_of ?_)
              refine op_via rfl rfl (fun K hK => ?_)
              refine wp_append_lies _ (.tmp 34) (.tmp 36) 77 rfl (w0.heap.size + 1) 96 i96 (.pointer none) 1 8 Tryz.underlying77 hi96 hz960 hz961 hz962 rfl (by decide) sv gs.length (ptrs gs) (by rfl) (by first | exact HN3.out.pr.segs | exact (HN3.out.alloc _).pr.segs) ⟨_, 0, none⟩ 1 1 [.pointer (some ⟨g, 0, none⟩)] (by rfl) rfl (by intro j u hu; obtain ⟨rfl, rfl⟩ := one_at hu; rw [add_cell, Nat.zero_add]; first | (simp [cell_alloc, objCell]; done) | (refine (HGR.out.cell_far _ (by simp <;> omega) (fun e => absurd (HROW.out _ e.symm) (by simp <;> omega))).trans (by simp [cell_alloc, objCell]))) (ptrs_one [g]) (by omega) (by simp [maxLen]; omega) (by omega) (by have := lt_of_obj HN3.out.obj; simp; omega) _ (by rfl) ?_
              intro g4 cap4 w4 hown4 hgrow4 hat4 hlt4
              have hps4 := PNd.seg (by first | exact HN3.out | exact HN3.out.alloc _) hown4 hgrow4 hat4 rfl
              have hcn4 := (PNd.so_keep (by first | exact HN3.out | exact HN3.out.alloc _) hgrow4).cell 2 _ rfl
              have c0'' := obj_cell (i := 0) hps4.1 rfl
              have c1'' := obj_cell (i := 1) hps4.1 rfl
              have f0'' := obj_free (i := 0) hps4.1
              have f1'' := obj_free (i := 1) hps4.1
              have HP4 := Lib.hid hps4
              refine hK _ _ ⟨fun _ => ⟨c0'', c1'', hcn4⟩, ?_⟩
              clear hK K hps4 hown4 hgrow4 hat4 hcn4
              try simp only [List.getElem_toArray, List.getElem_cons_zero, List.getElem_cons_succ, Act.put, List.setIfInBounds_toArray, List.set_cons_zero, List.set_cons_succ]
              refine AnyN.all (rs := [14]) (by kernel_rfl) (by simp) (one_of ?_)
              refine op_via rfl rfl (fun K hK => ?_)
              try simp only [List.getElem_toArray, List.getElem_cons_zero, List.getElem_cons_succ]
              go_simp
              refine hK _ _ ⟨fun h => absurd h (by decide), ?_⟩
              clear hK K
              try simp only [List.getElem_toArray, List.getElem_cons_zero, List.getElem_cons_succ, Act.put, List.setIfInBounds_toArray, List.set_cons_zero, List.set_cons_succ]
              refine AnyN.all (rs := [15]) (by kernel_rfl) (by simp) (one_of ?_)
              refine op_via rfl rfl (fun K hK => ?_)
              try simp only [List.getElem_toArray, List.getElem_cons_zero, List.getElem_cons_succ]
              go_simp
              refine hK _ _ ⟨fun h => absurd h (by decide), ?_⟩
              clear hK K
              try simp only [List.getElem_toArray, List.getElem_cons_zero, List.getElem_cons_succ, Act.put, List.setIfInBounds_toArray, List.set_cons_zero, List.set_cons_succ]
              refine AnyN.all (rs := [16]) (by kernel_rfl) (by simp) (one_of ?_)
              refine op_via rfl rfl (fun K hK => ?_)
              try simp only [List.getElem_toArray, List.getElem_cons_zero, List.getElem_cons_succ]
              go_simp
              refine hK _ _ ⟨fun h => absurd h (by decide), ?_⟩
              clear hK K
              try simp only [List.getElem_toArray, List.getElem_cons_zero, List.getElem_cons_succ, Act.put, List.setIfInBounds_toArray, List.set_cons_zero, List.set_cons_succ]
              refine AnyN.all (rs := [17]) (by kernel_rfl) (by simp) (one_of ?_)
              refine op_via rfl rfl (fun K hK => ?_)
              try simp only [List.getElem_toArray, List.getElem_cons_zero, List.getElem_cons_succ]
              go_simp
              refine hK _ _ ⟨fun h => absurd h (by decide), ?_⟩
              clear hK K
              try simp only [List.getElem_toArray, List.getElem_cons_zero, List.getElem_cons_succ, Act.put, List.setIfInBounds_toArray, List.set_cons_zero, List.set_cons_succ]
              refine AnyN.all (rs := [18]) (by kernel_rfl) (by simp) (one_of ?_)
              refine op_via rfl rfl (fun K hK => ?_)
              try simp only [List.getElem_toArray, List.getElem_cons_zero, List.getElem_cons_succ]
              go_simp
              refine hK _ _ ⟨fun h => absurd h (by decide), ?_⟩
              clear hK K
              try simp only [List.getElem_toArray, List.getElem_cons_zero, List.getElem_cons_succ, Act.put, List.setIfInBounds_toArray, List.set_cons_zero, List.set_cons_succ]
              refine AnyN.fin (by kernel_rfl) ?_ _
              go_wp2_with fail
              go_meet
              case rel =>
                refine ⟨q, x, st', pl', Nm ++ [x.name], gs ++ [g], cvs ++ [cv], .slice (some ⟨g4, 0, none⟩) (gs.length + 1) cap4, .slice (some ⟨g3, 0, none⟩) (Nm.length + 1) cap3, rfl, ?_⟩
                have h1 := HPL.out.go
                rw [HFV.out, step_param2 HPP.out HPART.out (by intro e; have := size_data r; rw [e] at this; simp at this; omega)] at h1
                have hq := HF.out.1
                have hq1 : 1 ≤ q.length := by rw [hq, List.length_take, size_data]; omega
                have hq2 : q.length ≤ r.size := by rw [hq, List.length_take, size_data]; omega
                have hf := HF.out.2
                exact ⟨hq1, hq2, by have := HPL.out.fsz; have := HFV.out; omega, psc_stored ⟨HP4.out.1, HP4.out.2.1⟩, h1, held_stored HP4.out.2.2 _ _, HPL.out.fresh.snoc (by rw [hf.1]; simp) hf.2.1 hf.2.2.1, by have := HPL.out.st1; have := hf.2.2.2.2.1; omega, by have := HPL.out.pl1; have := hf.2.2.2.2.2; omega, by have := HPL.out.segs; simp; omega, by have := HPL.out.nms; simp; omega, by simp⟩
          · have hne : (oi (paramPos r.data.toList) == 0) = false := by
              rw [beq_eq_false_iff_ne]
              cases hq : paramPos r.data.toList with
              | none => simp [oi]
              | some n => cases n with
                | zero => exact absurd hq hp
                | succ n => simp [oi]; omega
            have HPP := Lib.hid hp
            clear hp
            have hold := HPL.out.ps.2
            have hob := (HB1.out.block _ (lt_of_obj HPL.out.ps.1)).trans HPL.out.ps.1
            have hcall := constPart_any r (paramPos r.data.toList) (.pointer (some ⟨w0.heap.size, 0, none⟩)) w1 (by omega) (fun n hn => by have := paramPos_lt hn; rw [size_data] at this; omega)
            have HCALL := Lib.hid hcall
            clear hcall
            go_wp2_with fail
            refine HCALL.out.mono ?_
            rintro e w2 ⟨g, rfl, hg, ho, hb2⟩
            have hpf := constPart_facts r.data.toList (paramPos r.data.toList)
            obtain ⟨q, x, hpp⟩ : ∃ q x, (q, x) = constPart r.data.toList (paramPos r.data.toList) := ⟨_, _, rfl⟩
            rw [← hpp] at ho hpf
            rw [← hpp]
            simp only at ho hpf
            have HPP2 := Lib.hid hpp
            have HF := Lib.hid hpf
            have hpn : PNd w1.heap.size w1.heap.size w1 w0 w2 w0.heap.size gs cvs S Nm #[sv, pv, .int .i64 (st : Nat), .int .i64 (pl : Nat)] sv pv g x (.slice none 0 0) := by
              have hw1 := HB1.out.size
              have hPl := lt_of_obj HPL.out.ps.1
              exact ⟨⟨(hb2.block _ (lt_of_obj hob)).trans hob, (hold.below HB1.out).below hb2, ho, fun hm => by have := hold.inn.lt hm; omega, by omega, fun e => by have := (hold.segs.lt _ e).2; omega, fun e => by have := (hold.names.lt _ e).2; omega, fun k h1 h2 => by omega, hb2.size, fun k hk => .inl (by have := (hold.segs.lt _ hk).2; omega), fun k hk => .inl (by have := (hold.names.lt _ hk).2; omega), by omega⟩, ((HPL.out.held.below (Nat.le_refl _) HB1.out).mono HB1.out.size).below (Nat.le_refl _) hb2, fun g' hm => by have := hold.inn.lt hm; omega, hg, ⟨rfl, by rw [hpf.2.2.2]; exact ⟨[], rfl, World.ownsRow_nil _ _ _ _, by simp [Value.ownBlock], fun i c h => by simp at h⟩⟩⟩
            have hgl : gs.length = S.length := hold.inn.1
            have hgs1 : gs.length ≤ 1000000 := by have := HPL.out.segs; omega
            have hbase : w0.heap.size + 1 ≤ w2.heap.size := lt_of_obj hpn.obj
            have HPN := Lib.hid hpn
            have c0 := obj_cell (i := 0) hpn.obj rfl
            have f0 := obj_free (i := 0) hpn.obj
            obtain ⟨i96, hi96, hz960, hz961, hz962⟩ := info_parts info96
            clear hpn hob hpp hpf HCALL ho hg hgl hold
            go_wp2_with (at_builtin
                         refine wpList_append_lies _ rfl (.tmp 48) (.tmp 50) 77 rfl (w0.heap.size + 1) 96 i96 (.pointer none) 1 8 Tryz.underlying77 hi96 hz960 hz961 hz962 rfl (by decide) sv gs.length (ptrs gs) (by rfl) (HPN.out.alloc _).pr.segs ⟨_, 0, none⟩ 1 1 [.pointer (some ⟨g, 0, none⟩)] (by rfl) rfl (by intro j u hu; obtain ⟨rfl, rfl⟩ := one_at hu; rw [add_cell, Nat.zero_add]; simp [cell_alloc, objCell]) (ptrs_one [g]) (by omega) (by simp [maxLen]; omega) (by omega) (by have := hbase; simp; omega) _ (by rfl) ?_
                         intro g4 cap4 w4 hown4 hgrow4 hat4 hlt4
                         have hps4 := PNd.seg (HPN.out.alloc _) hown4 hgrow4 hat4 rfl
                         have c0'' := obj_cell (i := 0) hps4.1 rfl
                         have f0'' := obj_free (i := 0) hps4.1
                         have HP4 := Lib.hid hps4
                         clear hps4 hown4 hgrow4 hat4)
            go_meet
            case rel =>
            refine ⟨q, x, st, pl, Nm, gs ++ [g], cvs ++ [.slice none 0 0], .slice (some ⟨g4, 0, none⟩) (gs.length + 1) cap4, pv, rfl, ?_⟩
            have h1 := HPL.out.go
            have hr0 : r.data.toList ≠ [] := by intro e; have := size_data r; rw [e] at this; simp at this; omega
            rw [HFV.out, go_step_const hr0 HPP.out, ← HPP2.out] at h1
            have hq12 : 1 ≤ q.length ∧ q.length ≤ r.size := by
              have h5 : q = (constPart r.data.toList (paramPos r.data.toList)).1 := by rw [← HPP2.out]
              rw [h5]
              cases hpp : paramPos r.data.toList with
              | none => show 1 ≤ r.data.toList.length ∧ r.data.toList.length ≤ r.size; rw [size_data]; omega
              | some n =>
                show 1 ≤ (r.data.toList.take n).length ∧ (r.data.toList.take n).length ≤ r.size
                have := HPP.out
                rw [hpp] at this
                have hn : n ≠ 0 := by rintro rfl; exact this rfl
                rw [List.length_take, size_data]; omega
            have hf := HF.out
            rw [size_data] at hf
            exact ⟨hq12.1, hq12.2, by have := HPL.out.fsz; have := HFV.out; omega, psc_stored0 ⟨HP4.out.1, HP4.out.2.1⟩, h1, held_stored0 HP4.out.2.2 _, HPL.out.fresh.snoc (by omega) hf.2.1 hf.2.2.1, by have := HPL.out.st1; omega, by have := HPL.out.pl1; omega, by have := HPL.out.segs; simp; omega, by have := HPL.out.nms; omega, by simp⟩
        case rest =>
        obtain ⟨q, x, st', pl', Nm', gs', cvs', sv', pv', rfl, hph⟩ := hcut
        have HPH := Lib.hid hph
        have hq2 : q.length ≤ r.size := hph.q2
        have hq1 : 1 ≤ q.length := hph.q1
        have hbs : (bs q).size = q.length := bs_size q
        clear hph
        by_cases hle : q.length = r.size
        · have HX := Lib.hid (show O = some (S ++ [x], Nm') by
            have h1 := HPH.out.go
            rw [List.drop_of_length_le (by rw [size_data]; omega), go_step_end] at h1
            exact h1.symm)
          have HLE := Lib.hid hle
          go_wp2_with fail
          go_meet
          case rel =>
            exact ⟨st', pl', gs', cvs', sv', pv', S ++ [x], Nm', HX.out, HPH.out.ps, HPH.out.fresh, by have := HPH.out.segs; omega, by have := HPH.out.nms; omega, HPH.out.any, HPH.out.held⟩
        · have hlt : q.length < r.size := by omega
          have hne : ((q.length : Int) == (r.size : Int)) = false := by rw [beq_eq_false_iff_ne]; omega
          have hex := Lib.hid (extract_from r q.length)
          clear hle
          go_wp2_with fail
          go_roundw
          case rel =>
            refine ⟨r.extract q.length r.size, fv, st', pl', gs', cvs', S ++ [x], Nm', sv', pv', rfl, ?_⟩
            have hsz : (r.extract q.length r.size).size = r.size - q.length := by simp
            exact ⟨by have := HPH.out.fsz; omega, by omega, HPH.out.ps, by rw [hex.out]; exact HPH.out.go, HPH.out.held, HPH.out.fresh, by have := HPH.out.st1; omega, by have := HPH.out.pl1; omega, by have := HPH.out.segs; omega, by have := HPH.out.nms; omega, fun _ => HPH.out.any⟩
          case measure => simp [strSize]; omega
  case rest =>
  obtain ⟨st, pl, gs, cvs, sv, pv, T, U, hOT, hps, hfr, htl, hul, ht0, hheld⟩ := hcut
  have HHELD := Lib.hid hheld
  have HRT := Lib.hid (show R = (metaFwd (cmpBack (markLast T)).1).bind fun M => if 30 < U.length then none else some (M, U) by rw [HRO.out, hOT]; rfl)
  clear hheld hOT HRO HO
  have hgl : gs.length = T.length := hps.2.inn.1
  obtain ⟨r, cap, hsv, hrb, hrl, hrc⟩ := own_some hps.2.segs (by omega)
  subst hsv
  obtain ⟨ao, ncap, rfl⟩ := own_form hps.2.names
  obtain ⟨n, hn⟩ : ∃ n, n = gs.length := ⟨_, rfl⟩
  rw [← hn] at hps hgl
  have HN := Lib.hid hn
  have hn1 : 0 < n := by omega
  have hn2 : n ≤ 1000000 := by omega
  obtain ⟨x, hx⟩ : ∃ x, T[n - 1]? = some x := ⟨T[n - 1]'(by omega), List.getElem?_eq_getElem (by omega)⟩
  obtain ⟨g, cv, hg, hcv, ho⟩ := hps.2.inn.2.2 (n - 1) x hx
  have hgm := List.mem_of_getElem? hg
  have hrow : ∀ (i : Nat) (g : Nat), gs[i]? = some g → wc.cell? ⟨r, i, none⟩ = some (.pointer (some ⟨g, 0, none⟩)) := fun i g h => hrc i _ (by unfold ptrs; rw [List.getElem?_map, h]; rfl)
  have cr := hrow (n - 1) g hg
  have c7 := ho.cell 7 _ rfl
  have f7 := ho.frozen 7
  have c0 := obj_cell (i := 0) hps.1 rfl
  have hgP := (hps.2.far g hgm).1
  have hnrg : r ∉ gs := fun hm => (hps.2.far r hm).2.1 rfl
  have hnr : ∀ v : Value, (wc.setCell ⟨g, 7, none⟩ v).heap[w0.heap.size]? = wc.heap[w0.heap.size]? := fun v => Below.heap_setCell wc ⟨g, 7, none⟩ v _ (by show w0.heap.size ≠ g; omega)
  have hml : (markLast T).length = n := by rw [mark_length]; omega
  have hms : markLast T = T.set (n - 1) { x with last := true } := mark_set hx (by omega)
  have hin2 : SegsIn (wc.setCell ⟨g, 7, none⟩ (.bool true)) gs (markLast T) cvs := by
    rw [hms]
    exact hps.2.inn.set hps.2.nod (f := 7) (x' := { x with last := true }) (.bool true) hx hg hcv rfl
  have hcall := meta_all (markLast T) gs cvs r cap (wc.setCell ⟨g, 7, none⟩ (.bool true)) hps.2.nod hnrg (by omega) (by omega)
    (fun i g' h => (World.cell?_of_block (a := ⟨r, i, none⟩) (Below.heap_setCell wc ⟨g, 7, none⟩ (.bool true) r (by rintro rfl; exact hnrg hgm))).trans (hrow i g' h)) hin2
    (mark_keep (Q := fun x => x.const.length ≤ 1000000 ∧ x.partCount = 0 ∧ x.cmp = []) (fun x h => h) (fun x hx => by have := hfr x hx; exact ⟨by omega, this.2⟩))
  rw [hml] at hcall
  have HCALL := Lib.hid hcall
  have HPS := Lib.hid hps
  have HROW := Lib.hid hrow
  have HNR := Lib.hid hnr
  have e1 : IntKind.i64.wrap ((n : Int) - 1) = (n : Int) - 1 := IntWalk.i64_in _ (by omega)
  have e2 : (0 : Int) ≤ (n : Int) - 1 := by omega
  have e3 : ((n : Int) - 1).toNat = n - 1 := by omega
  have e4 : (n : Int) - 1 < (n : Int) := by omega
  clear hcall hps hrow hnr hin2 hms hml hx hg hcv ho hn hrc hfr hgl htl ht0
  have hb0 : Below w.heap.size w w0 := HW00.out
  have hbc : Below w.heap.size w wc := hb0.trans (HPS.out.2.old.mono hb0.size)
  have HBC := Lib.hid hbc
  have HTB := Lib.hid (show ∀ w3, Touch gs (wc.setCell ⟨g, 7, none⟩ (.bool true)) w3 → Below w.heap.size w w3 from fun w3 ht => (hbc.setCell (p := ⟨g, 7, none⟩) (by show w.heap.size ≤ g; omega) (.bool true)).trans (touch_to_below ht (fun k hk => by have := (HPS.out.2.far k hk).1; omega) (by have := hbc.size; simpa using this)))
  clear hb0 hbc
  rcases hmt : metaFwd (cmpBack (markLast T)).1 with _ | M
  · have hcall2 := HCALL.out
    rw [hmt] at hcall2
    have HC2 := Lib.hid hcall2
    have HDN := Lib.hid (show R = none by rw [HRT.out, hmt]; rfl)
    clear hcall2 hmt HCALL
    go_wp2_with fail
    refine HC2.out.mono ?_
    rintro e w3 ⟨ht3, dT, dx, rfl⟩
    have HBL := Lib.hid (HTB.out w3 ht3)
    clear ht3
    go_wp2_with fail
    refine ⟨rfl, ?_⟩
    rw [HDN.out]
    exact ⟨⟨_, _, rfl⟩, HBL.out⟩
  have hcall2 := HCALL.out
  rw [hmt] at hcall2
  have HC2 := Lib.hid hcall2
  have HMT := Lib.hid hmt
  clear hcall2 hmt HCALL
  go_wp2_with fail
  refine HC2.out.mono ?_
  rintro e w3 ⟨ht3, rfl, hin3⟩
  have hob : w3.heap[w0.heap.size]? = some (.cells #[.slice (some ⟨r, 0, none⟩) n cap, .slice ao U.length ncap, .int .i64 (st : Nat), .int .i64 (pl : Nat)] 79 (0, 0)) :=
    (ht3.block _ (by have := lt_of_obj HPS.out.1; simpa using this) (fun hm => by have := (HPS.out.2.far _ hm).1; omega)).trans ((HNR.out _).trans HPS.out.1)
  have d0 := obj_cell (i := 0) hob rfl
  have d1 := obj_cell (i := 1) hob rfl
  have d2 := obj_cell (i := 2) hob rfl
  have d3 := obj_cell (i := 3) hob rfl
  have g0 := obj_free (i := 0) hob
  have hrz : w3.heap[w.heap.size]? = some (.cells #[.slice none 0 0, .slice none 0 0, .int .i64 0, .int .i64 0] 79 (0, 0)) := by
    refine (ht3.block _ (by have := HPS.out.2.old.size; simp; omega) (fun hm => by have := (HPS.out.2.far _ hm).1; omega)).trans ((Below.heap_setCell wc ⟨g, 7, none⟩ (.bool true) _ (by show w.heap.size ≠ g; omega)).trans ((HPS.out.2.old.block _ hwp).trans ?_))
    rw [HW0.out]
    show (w.heap.push _)[w.heap.size]? = _
    simp
  have r0 := obj_cell (i := 0) hrz rfl
  have r1 := obj_cell (i := 1) hrz rfl
  have r2 := obj_cell (i := 2) hrz rfl
  have r3 := obj_cell (i := 3) hrz rfl
  have z0 := obj_free (i := 0) hrz
  have z1 := obj_free (i := 1) hrz
  have z2 := obj_free (i := 2) hrz
  have z3 := obj_free (i := 3) hrz
  have hne : ¬ w0.heap.size = w.heap.size := by omega
  have HRZ := Lib.hid hrz
  have HOB := Lib.hid hob
  clear hrz hob
  have HIN3 := Lib.hid hin3
  have HT3 := Lib.hid ht3
  clear hin3 ht3 HC2
  by_cases hU30 : 30 < U.length
  · have HDN := Lib.hid (show R = none by rw [HRT.out, HMT.out]; exact if_pos hU30)
    have HBL := Lib.hid (HTB.out w3 HT3.out)
    go_wp2_with fail
    refine ⟨rfl, ?_⟩
    rw [HDN.out]
    exact ⟨⟨_, _, rfl⟩, by first | exact HBL.out | exact HBL.out.setCell (p := ⟨w0.heap.size, 0, none⟩) (by show w.heap.size ≤ w0.heap.size; omega) _⟩
  have HUL := hU30
  have HRS := Lib.hid (show R = some (M, U) by rw [HRT.out, HMT.out]; exact if_neg hU30)
  go_wp2_with fail
  have hW5 : ((((((w3.setCell ⟨w0.heap.size, 0, none⟩ (.slice (some ⟨r, 0, none⟩) n cap)).setCell ⟨w.heap.size, 0, none⟩ (.slice (some ⟨r, 0, none⟩) n cap)).setCell ⟨w.heap.size, 1, none⟩ (.slice ao U.length ncap)).setCell ⟨w.heap.size, 2, none⟩ (.int .i64 (st : Nat))).setCell ⟨w.heap.size, 3, none⟩ (.int .i64 (pl : Nat)))).heap[w.heap.size]? = some (.cells #[.slice (some ⟨r, 0, none⟩) n cap, .slice ao U.length ncap, .int .i64 (st : Nat), .int .i64 (pl : Nat)] 79 (0, 0)) :=
    obj_set (i := 3) _ (obj_set (i := 2) _ (obj_set (i := 1) _ (obj_set (i := 0) _ ((Below.heap_setCell _ ⟨w0.heap.size, 0, none⟩ _ _ (by show w.heap.size ≠ w0.heap.size; omega)).trans HRZ.out))))
  refine bodyPost_ret (v := .agg #[.slice (some ⟨r, 0, none⟩) n cap, .slice ao U.length ncap, .int .i64 (st : Nat), .int .i64 (pl : Nat)]) (results_cell_row rfl _ _ w.heap.size 79 _ (0, 0) _ (by rfl) hW5 Tryz.underlying79 rfl (by kernel_rfl)) rfl ?_
  have hnn : n = M.length := by have h1 := HN.out; have h2 := HIN3.out.1; omega
  have hbc := HBC.out
  have hb3 : Below w.heap.size w w3 := HTB.out w3 HT3.out
  have hsz3 : wc.heap.size ≤ w3.heap.size := by have := HT3.out.size; simpa using this
  have hnrow : ∀ k, k ∈ gs → k ≠ w0.heap.size ∧ k ≠ w.heap.size := fun k hk => by have := (HPS.out.2.far k hk).1; omega
  have hrr : r ≠ w0.heap.size ∧ r ≠ w.heap.size ∧ r ≠ g := ⟨by omega, by omega, by rintro rfl; exact hnrg hgm⟩
  rw [HRS.out]
  have hk5 : ∀ k, k ≠ w0.heap.size → k ≠ w.heap.size → ((((((w3.setCell ⟨w0.heap.size, 0, none⟩ (.slice (some ⟨r, 0, none⟩) n cap)).setCell ⟨w.heap.size, 0, none⟩ (.slice (some ⟨r, 0, none⟩) n cap)).setCell ⟨w.heap.size, 1, none⟩ (.slice ao U.length ncap)).setCell ⟨w.heap.size, 2, none⟩ (.int .i64 (st : Nat))).setCell ⟨w.heap.size, 3, none⟩ (.int .i64 (pl : Nat)))).heap[k]? = w3.heap[k]? := fun k h1 h2 => five_keep _ _ _ _ _ k h1 h2
  refine ⟨gs, cvs, some ⟨r, 0, none⟩, cap, .slice ao U.length ncap, st, pl, by rw [← hnn], HIN3.out.keep (fun k hk => hk5 k (hnrow k hk).1 (hnrow k hk).2), HPS.out.2.nod, ?_, fun i g' h => ⟨r, rfl, ?_, ?_⟩, ?_, ?_⟩
  · have hok := HHELD.out.ok (B := w.heap.size) (W2 := (((((w3.setCell ⟨w0.heap.size, 0, none⟩ (.slice (some ⟨r, 0, none⟩) n cap)).setCell ⟨w.heap.size, 0, none⟩ (.slice (some ⟨r, 0, none⟩) n cap)).setCell ⟨w.heap.size, 1, none⟩ (.slice ao U.length ncap)).setCell ⟨w.heap.size, 2, none⟩ (.int .i64 (st : Nat))).setCell ⟨w.heap.size, 3, none⟩ (.int .i64 (pl : Nat)))) (Nat.le_refl _) (Nat.le_of_lt hwp) (fun k h1 h2 h3 => (hk5 k (by omega) (by omega)).trans ((HT3.out.block k (by simpa using h3) h2).trans (Below.heap_setCell wc ⟨g, 7, none⟩ (.bool true) k (by show k ≠ g; rintro rfl; exact h2 hgm))))
    exact hok.map (all_keeps HMT.out).2
  · simp only [World.size_setCell]; omega
  · refine (World.cell?_of_block (a := ⟨r, i, none⟩) (hk5 r hrr.1 hrr.2.1)).trans ?_
    refine (World.cell?_of_block (a := ⟨r, i, none⟩) (HT3.out.block r (by simpa using hrl) hnrg)).trans ?_
    exact (World.cell?_of_block (a := ⟨r, i, none⟩) (Below.heap_setCell wc ⟨g, 7, none⟩ (.bool true) r hrr.2.2)).trans (HROW.out i g' h)
  · have hnm := HPS.out.2.names
    have hpv : ∀ k, (Value.slice ao U.length ncap).ownBlock = some k → k ∉ gs ∧ w0.heap.size < k ∧ k < wc.heap.size := fun k hk => ⟨fun hm => (HPS.out.2.far k hm).2.2 hk, (hnm.lt k hk).1, (hnm.lt k hk).2⟩
    have hkeep : ∀ k, (Value.slice ao U.length ncap).ownBlock = some k → ((((((w3.setCell ⟨w0.heap.size, 0, none⟩ (.slice (some ⟨r, 0, none⟩) n cap)).setCell ⟨w.heap.size, 0, none⟩ (.slice (some ⟨r, 0, none⟩) n cap)).setCell ⟨w.heap.size, 1, none⟩ (.slice ao U.length ncap)).setCell ⟨w.heap.size, 2, none⟩ (.int .i64 (st : Nat))).setCell ⟨w.heap.size, 3, none⟩ (.int .i64 (pl : Nat)))).heap[k]? = wc.heap[k]? := fun k hk => by
      have h1 := hpv k hk
      refine (five_keep _ _ _ _ _ k (by omega) (by omega)).trans ((HT3.out.block k (by simpa using h1.2.2) h1.1).trans (Below.heap_setCell wc ⟨g, 7, none⟩ (.bool true) k ?_))
      show k ≠ g
      rintro rfl
      exact h1.1 hgm
    exact own_base (own_keep hnm hkeep) (by omega)
  · exact five_below _ _ _ _ _ hb3 (by omega) (Nat.le_refl _)
theorem parse_all (s : ByteArray) (w : World) (hE : EnvZ w) (hs : s.size ≤ 1000000) :
    Calls Tryz.prog 43 #[.string s] w (ParsedD w (parse s.data.toList)) := by
  rcases Nat.eq_zero_or_pos s.size with h0 | h0
  · have hemp : s = ⟨#[]⟩ := by cases s with | mk d => exact congrArg ByteArray.mk (Array.eq_empty_of_size_eq_zero h0)
    subst hemp
    rw [show parse (⟨#[]⟩ : ByteArray).data.toList = some ([], []) by decide +kernel]
    refine (parse_empty w).mono ?_
    rintro e w' ⟨rfl, hb⟩
    exact ⟨[], [], none, 0, .slice none 0 0, 0, 0, rfl, ⟨rfl, rfl, by intro i x hx; simp at hx⟩, List.nodup_nil, by intro i x g cv h; simp at h, by intro i g h; simp at h, World.ownsRow_nil _ _ _ _, hb⟩
  · obtain ⟨B, hB, htab⟩ := hE
    exact parse_most s B w hs h0 hB htab
end Go.Proofs.YtiebedcldbmlhaaGreatDoor
