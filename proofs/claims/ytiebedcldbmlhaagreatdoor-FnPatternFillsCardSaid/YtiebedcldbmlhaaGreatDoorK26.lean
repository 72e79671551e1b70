/-
  Joined: addParameterMetaInfo, of any segments that lie in memory; parseRoute, of any pattern without constraints that does not panic; Laws on one step of the match. No program in this text; getMatch, of any text and any segments without constraints that lie in memory; ZzMatch and Values, of any pattern without constraints that does not panic and any path.
  Conditions: each law's own.
-/
import Derived.Test.YtiebedcldbmlhaaGreatDoorK22
import Derived.Test.YtiebedcldbmlhaaGreatDoorK25
import Derived.Deep.CutBlock
import Derived.Maps.AppendAt
import Derived.Deep.AppendLies
import Derived.BigQuiet
import Derived.Defers
import Derived.Recover
import Derived.Laws.Pointers
namespace Go.Proofs.YtiebedcldbmlhaaGreatDoor
open Go.RowKit
set_option linter.unusedVariables false

theorem cell_keep {w : World} {a b : Addr} {v x : Value} (h : a ≠ b) (hc : w.cell? a = some x) : (w.setCell b v).drew.cell? a = some x := by
  rw [← hc]
  exact World.cell?_setCell_other w b a v (fun e => h e.symm)
end Go.Proofs.YtiebedcldbmlhaaGreatDoor
namespace Go.Proofs.YtiebedcldbmlhaaGreatDoor
open Go.RowKit
set_option linter.unusedVariables false

theorem info96 : (Tryz.prog.info? 96).map (fun i => (i.zero, i.size, i.bytes)) = some (some (.pointer none), 1, 8) := by kernel_rfl
theorem ptrs_one (l : List Nat) : ∀ u ∈ ptrs l, u.oneCell' = true := by
  intro u hu
  obtain ⟨s, _, rfl⟩ := List.mem_map.1 hu
  rfl

theorem own_form {w : World} {base : Nat} {e : TypeId} {sz n : Nat} {v : Value} {xs : List Value} (h : w.ownsRow base e sz v n xs) : ∃ ao cap, v = .slice ao n cap := by
  rcases h.2 with ⟨rfl, rfl⟩ | ⟨g, cap, cur, rfl, _⟩
  · exact ⟨none, 0, rfl⟩
  · exact ⟨_, _, rfl⟩
theorem own_base {w : World} {base b2 : Nat} {e : TypeId} {sz n : Nat} {v : Value} {xs : List Value} (h : w.ownsRow base e sz v n xs) (hb : b2 ≤ base) : w.ownsRow b2 e sz v n xs := by
  refine ⟨h.1, ?_⟩
  rcases h.2 with hn | ⟨g, cap, cur, hv, h1, rest⟩
  · exact .inl hn
  · exact .inr ⟨g, cap, cur, hv, Nat.le_trans hb h1, rest⟩
theorem mark_set {T : List Seg} {n : Nat} {x : Seg} (hx : T[n]? = some x) (hn : n + 1 = T.length) : markLast T = T.set n { x with last := true } := by
  rcases List.eq_nil_or_concat T with rfl | ⟨l, y, rfl⟩
  · simp at hn
  · rw [List.concat_eq_append] at hx hn ⊢
    have hl : n = l.length := by simp at hn; omega
    subst hl
    rw [List.getElem?_append_right (Nat.le_refl _)] at hx
    simp only [Nat.sub_self, List.getElem?_cons_zero, Option.some.injEq] at hx
    subst hx
    rw [mark_snoc]
    simp
theorem touch_to_below {gs : List Nat} {w w' : World} {B : Nat} (h : Touch gs w w') (hg : ∀ g ∈ gs, B ≤ g) (hB : B ≤ w.heap.size) : Below B w w' :=
  ⟨h.os, h.tape, h.output, h.size, fun k hk => h.block k (by omega) (fun hm => by have := hg k hm; omega)⟩

theorem own_keep {w w2 : World} {base : Nat} {e : TypeId} {sz n : Nat} {v : Value} {xs : List Value} (h : w.ownsRow base e sz v n xs) (hk : ∀ k, v.ownBlock = some k → w2.heap[k]? = w.heap[k]?) : w2.ownsRow base e sz v n xs := by
  refine ⟨h.1, ?_⟩
  rcases h.2 with hn | ⟨g, cap, cur, rfl, h1, h2, rest⟩
  · exact .inl hn
  · exact .inr ⟨g, cap, cur, rfl, h1, (hk g rfl).trans h2, rest⟩
theorem five_keep {w3 : World} {P R : Nat} (v a b c d : Value) (k : Nat) (h1 : k ≠ P) (h2 : k ≠ R) :
    ((((((w3.setCell ⟨P, 0, none⟩ v).setCell ⟨R, 0, none⟩ a).setCell ⟨R, 1, none⟩ b).setCell ⟨R, 2, none⟩ c).setCell ⟨R, 3, none⟩ d)).heap[k]? = w3.heap[k]? := by
  rw [Below.heap_setCell _ ⟨R, 3, none⟩ d k h2, Below.heap_setCell _ ⟨R, 2, none⟩ c k h2, Below.heap_setCell _ ⟨R, 1, none⟩ b k h2, Below.heap_setCell _ ⟨R, 0, none⟩ a k h2, Below.heap_setCell _ ⟨P, 0, none⟩ v k h1]
theorem five_below {w w3 : World} {P R B : Nat} (v a b c d : Value) (h : Below B w w3) (h1 : B ≤ P) (h2 : B ≤ R) :
    Below B w ((((((w3.setCell ⟨P, 0, none⟩ v).setCell ⟨R, 0, none⟩ a).setCell ⟨R, 1, none⟩ b).setCell ⟨R, 2, none⟩ c).setCell ⟨R, 3, none⟩ d)) :=
  ((((h.setCell (p := ⟨P, 0, none⟩) h1 v).setCell (p := ⟨R, 0, none⟩) h2 a).setCell (p := ⟨R, 1, none⟩) h2 b).setCell (p := ⟨R, 2, none⟩) h2 c).setCell (p := ⟨R, 3, none⟩) h2 d

/-- What parseRoute leaves. -/
def Parsed (w : World) (M : List Seg) (N : List Bs) (e : Ending) (w' : World) : Prop :=
  ∃ (gs : List Nat) (cvs : List Value) (r cap : Nat) (pv : Value) (st pl : Nat), e = .returned (.agg #[.slice (some ⟨r, 0, none⟩) M.length cap, pv, .int .i64 (st : Nat), .int .i64 (pl : Nat)]) ∧
    SegsIn w' gs M cvs ∧ gs.Nodup ∧ (∀ cv ∈ cvs, ∃ a cap, cv = .slice a 0 cap) ∧ (∀ (i : Nat) (g : Nat), gs[i]? = some g → w'.cell? ⟨r, i, none⟩ = some (.pointer (some ⟨g, 0, none⟩))) ∧ r < w'.heap.size ∧
    w'.ownsRow w.heap.size 9 1 pv N.length (svals N) ∧ Below w.heap.size w w'

/-- The loop's state. -/
structure PL (w : World) (s : ByteArray) (T : List Seg) (U : List Bs) (r : ByteArray) (wr : World) (fuel st pl : Nat) (gs : List Nat) (cvs : List Value) (S : List Seg) (N : List Bs) (sv pv : Value) : Prop where
  fsz : r.size ≤ fuel
  size : r.size ≤ s.size
  ps : PS w wr w.heap.size gs cvs S N st pl sv pv
  go : parseGo fuel r.data.toList st pl S N = some (T, U)
  no60 : ∀ x ∈ r.data.toList, x ≠ 60
  fresh : Fresh s.size S
  st1 : st + r.size ≤ s.size
  pl1 : pl + r.size ≤ s.size
  segs : S.length + r.size ≤ s.size
  nms : N.length + r.size ≤ s.size
  any : r.size < s.size → 0 < S.length

theorem one_at {α : Type} {x u : α} {j : Nat} (h : [x][j]? = some u) : j = 0 ∧ u = x := by
  obtain ⟨hl, hu⟩ := List.getElem?_eq_some_iff.1 h
  have : j = 0 := by simp at hl; omega
  subst this
  exact ⟨rfl, hu.symm⟩

/-- The state with a new segment that is not yet in the rows. -/
structure PN (w W : World) (P : Nat) (gs : List Nat) (cvs : List Value) (S : List Seg) (N : List Bs) (o : Array Value) (sv pv : Value) (g : Nat) (x : Seg) (cv : Value) : Prop where
  obj : W.heap[P]? = some (.cells o 79 (0, 0))
  pr : PR w W P gs cvs S N sv pv
  so : SegObj W g x cv
  g1 : g ∉ gs
  g2 : P < g
  g3 : sv.ownBlock ≠ some g
  g4 : pv.ownBlock ≠ some g
  cv0 : ∃ a cap, cv = .slice a 0 cap
theorem PN.below {w W W2 : World} {P : Nat} {gs : List Nat} {cvs : List Value} {S : List Seg} {N : List Bs} {o : Array Value} {sv pv : Value} {g : Nat} {x : Seg} {cv : Value} (h : PN w W P gs cvs S N o sv pv g x cv) (hb : Below W.heap.size W W2) : PN w W2 P gs cvs S N o sv pv g x cv :=
  ⟨(hb.block P (lt_of_obj h.obj)).trans h.obj, h.pr.below hb, h.so.below hb h.so.lt, h.g1, h.g2, h.g3, h.g4, h.cv0⟩
theorem PN.alloc {w W : World} {P : Nat} {gs : List Nat} {cvs : List Value} {S : List Seg} {N : List Bs} {o : Array Value} {sv pv : Value} {g : Nat} {x : Seg} {cv : Value} (h : PN w W P gs cvs S N o sv pv g x cv) (ob : Obj) : PN w (W.alloc ob) P gs cvs S N o sv pv g x cv :=
  h.below ((Below.refl _ _).alloc (Nat.le_refl _) _)
theorem PN.name {w W W2 : World} {P : Nat} {gs : List Nat} {cvs : List Value} {S : List Seg} {N : List Bs} {o : Array Value} {sv pv : Value} {g : Nat} {x : Seg} {cv : Value} (h : PN w W P gs cvs S N o sv pv g x cv) {n : Bs} {g3 cap3 H : Nat}
    (ho : W2.ownsRow (P + 1) 9 1 (.slice (some ⟨g3, 0, none⟩) (N.length + 1) cap3) (N.length + 1) (svals N ++ [.string (bs n)])) (hg : W.grownBy W2 pv.ownBlock) (ha : pv.ownBlock = some g3 ∨ g3 = H) (hH : W.heap.size = H) :
    PN w W2 P gs cvs S (N ++ [n]) o sv (.slice (some ⟨g3, 0, none⟩) (N.length + 1) cap3) g x cv := by
  subst hH
  refine ⟨(hg.block P (lt_of_obj h.obj) (fun e => ?_)).trans h.obj, h.pr.name ho hg (ha.imp (fun e => e.symm) (fun e => congrArg some e)) (Nat.le_refl _), (hg.block g h.so.lt (fun e => h.g4 e.symm)).trans h.so, h.g1, h.g2, h.g3, ?_, h.cv0⟩
  · have := (h.pr.names.lt _ e.symm).1; omega
  · intro e
    have e' : g3 = g := Option.some.inj e
    subst e'
    rcases ha with e | e
    · exact h.g4 e
    · have := h.so.lt; omega
theorem PN.seg {w W W2 : World} {P : Nat} {gs : List Nat} {cvs : List Value} {S : List Seg} {N : List Bs} {o : Array Value} {sv pv : Value} {g : Nat} {x : Seg} {cv : Value} (h : PN w W P gs cvs S N o sv pv g x cv) {g3 cap3 H : Nat}
    (ho : W2.ownsRow (P + 1) 96 1 (.slice (some ⟨g3, 0, none⟩) (gs.length + 1) cap3) (gs.length + 1) (ptrs gs ++ [.pointer (some ⟨g, 0, none⟩)])) (hg : W.grownBy W2 sv.ownBlock) (ha : sv.ownBlock = some g3 ∨ g3 = H) (hH : W.heap.size = H) :
    W2.heap[P]? = some (.cells o 79 (0, 0)) ∧ PR w W2 P (gs ++ [g]) (cvs ++ [cv]) (S ++ [x]) N (.slice (some ⟨g3, 0, none⟩) (gs.length + 1) cap3) pv := by
  subst hH
  refine ⟨(hg.block P (lt_of_obj h.obj) (fun e => ?_)).trans h.obj, h.pr.seg h.so h.g1 h.g2 h.g3 h.g4 h.cv0 ho hg (ha.imp (fun e => e.symm) (fun e => congrArg some e)) (Nat.le_refl _)⟩
  have := (h.pr.segs.lt _ e.symm).1; omega
theorem PN.so_keep {w W W2 : World} {P : Nat} {gs : List Nat} {cvs : List Value} {S : List Seg} {N : List Bs} {o : Array Value} {sv pv : Value} {g : Nat} {x : Seg} {cv : Value} (h : PN w W P gs cvs S N o sv pv g x cv) (hg : W.grownBy W2 sv.ownBlock) : SegObj W2 g x cv :=
  (hg.block g h.so.lt (fun e => h.g3 e.symm)).trans h.so
theorem PN.cells {w W : World} {P : Nat} {gs : List Nat} {cvs : List Value} {S : List Seg} {N : List Bs} {st pl : Nat} {sa pa sv pv : Value} {g : Nat} {x : Seg} {cv : Value} (h : PN w W P gs cvs S N #[sa, pa, .int .i64 (st : Nat), .int .i64 (pl : Nat)] sv pv g x cv) :
    W.cell? ⟨P, 0, none⟩ = some sa ∧ W.cell? ⟨P, 1, none⟩ = some pa ∧ W.cell? ⟨g, 2, none⟩ = some (.string (bs x.name)) :=
  ⟨obj_cell h.obj rfl, obj_cell h.obj rfl, h.so.cell 2 _ rfl⟩
/-- The two stores into the parser's block. -/
theorem ps_stored {w W : World} {P : Nat} {gs : List Nat} {cvs : List Value} {S : List Seg} {N : List Bs} {a b : Value} {st pl : Nat} {sv pv : Value} (h : W.heap[P]? = some (.cells #[a, b, .int .i64 (st : Nat), .int .i64 (pl : Nat)] 79 (0, 0)) ∧ PR w W P gs cvs S N sv pv) :
    PS w ((W.setCell ⟨P, 1, none⟩ pv).setCell ⟨P, 0, none⟩ sv) P gs cvs S N st pl sv pv :=
  ⟨obj_set (i := 0) sv (obj_set (i := 1) pv h.1), (h.2.setP 1 pv).setP 0 sv⟩
theorem ps_stored0 {w W : World} {P : Nat} {gs : List Nat} {cvs : List Value} {S : List Seg} {N : List Bs} {a : Value} {st pl : Nat} {sv pv : Value} (h : W.heap[P]? = some (.cells #[a, pv, .int .i64 (st : Nat), .int .i64 (pl : Nat)] 79 (0, 0)) ∧ PR w W P gs cvs S N sv pv) :
    PS w (W.setCell ⟨P, 0, none⟩ sv) P gs cvs S N st pl sv pv :=
  ⟨obj_set (i := 0) sv h.1, h.2.setP 0 sv⟩

/-- The state in the middle of a round: the part is in the rows, the pattern is not yet cut. -/
structure PH (w : World) (s : ByteArray) (T : List Seg) (U : List Bs) (r : ByteArray) (wr : World) (fuel st pl : Nat) (q : Bs) (gs : List Nat) (cvs : List Value) (S : List Seg) (N : List Bs) (sv pv : Value) : Prop where
  q1 : 1 ≤ q.length
  q2 : q.length ≤ r.size
  fsz : r.size ≤ fuel + 1
  ps : PS w wr w.heap.size gs cvs S N st pl sv pv
  go : parseGo fuel (r.data.toList.drop q.length) st pl S N = some (T, U)
  fresh : Fresh s.size S
  st1 : st + r.size ≤ s.size + 1
  pl1 : pl + r.size ≤ s.size + 1
  segs : S.length + r.size ≤ s.size + 1
  nms : N.length + r.size ≤ s.size + 1
  any : 0 < S.length

end Go.Proofs.YtiebedcldbmlhaaGreatDoor
namespace Go.Proofs.YtiebedcldbmlhaaGreatDoor
open Go.RowKit
set_option linter.unusedVariables false

theorem greedyGo_le (sub : Bs) : ∀ (p c : Nat) (s : Bs), (greedyGo sub p c s).length ≤ s.length
  | 0, c, s => by rw [greedyGo_stop (.inl rfl)]; exact Nat.le_refl _
  | p + 1, 0, s => by rw [greedyGo_stop (.inr rfl)]; exact Nat.le_refl _
  | p + 1, c + 1, s => by
    cases h : lastIdx s sub with
    | none => rw [greedyGo_none h]; exact Nat.le_refl _
    | some k =>
      rw [greedyGo_some h]
      exact Nat.le_trans (greedyGo_le sub p c _) (by rw [List.length_take]; omega)
theorem fb_getD_le (s : Bs) (c : UInt8) : (fb s c).getD s.length ≤ s.length := by
  cases h : fb s c with
  | none => exact Nat.le_refl _
  | some k => have : k < s.length := findIdx_lt h
              show k ≤ _; omega
theorem paramLen_le (s : Bs) (x : Seg) : paramLen s x ≤ s.length := by
  unfold paramLen
  split
  · split
    · exact Nat.le_refl _
    · exact fb_getD_le s 47
  · split
    · omega
    · split
      · split
        · exact greedyGo_le _ _ _ _
        · split
          · exact fb_getD_le s _
          · split
            · exact Nat.le_refl _
            · rename_i p hp
              have := idx_le hp
              split <;> omega
      · exact Nat.zero_le _

abbrev chk0 : Con → Bs → Bool := fun _ _ => true
abbrev mres (M : List Seg) (part : Bool) (s : Bs) : Option (List Bs) := matchGo chk0 part M s []

theorem mg_opt {part : Bool} {x : Seg} {R : List Seg} {s : Bs} {vs : List Bs} {n : Nat} (hp : x.isParam = false) (ho : x.optSlash = true) (hl : x.length = (n : Int) + 1) (h1 : s.length = n) (h2 : s = x.const.take n) :
    matchGo chk0 part (x :: R) s vs = matchGo chk0 part R (s.drop n) vs := by
  conv => lhs; unfold matchGo
  have e : (x.length - 1).toNat = n := by omega
  rw [hp, ho, e]
  simp only [Bool.not_false, if_true]
  rw [if_pos ⟨trivial, by omega, h2⟩]
theorem mg_full {part : Bool} {x : Seg} {R : List Seg} {s : Bs} {vs : List Bs} {n : Nat} (hp : x.isParam = false) (hl : x.length = (n : Int)) (h1 : n ≤ s.length) (h2 : s.take n = x.const) :
    matchGo chk0 part (x :: R) s vs = matchGo chk0 part R (s.drop n) vs := by
  conv => lhs; unfold matchGo
  have e : x.length.toNat = n := by omega
  rw [hp, e]
  simp only [Bool.not_false, if_true]
  rw [if_neg (by rintro ⟨_, h, _⟩; omega), if_pos ⟨by omega, h2⟩]
theorem mg_fail {part : Bool} {x : Seg} {R : List Seg} {s : Bs} {vs : List Bs} {n : Nat} (hp : x.isParam = false) (hl : x.length = (n : Int)) (h0 : ¬ (x.optSlash = true ∧ (s.length : Int) = n - 1 ∧ s = x.const.take (n - 1))) (h2 : ¬ (n ≤ s.length ∧ s.take n = x.const)) :
    matchGo chk0 part (x :: R) s vs = none := by
  conv => lhs; unfold matchGo
  have e : x.length.toNat = n := by omega
  have e2 : (x.length - 1).toNat = n - 1 := by omega
  rw [hp, e, e2]
  simp only [Bool.not_false, if_true]
  rw [if_neg (by rintro ⟨a, b, c⟩; exact h0 ⟨a, by omega, c⟩), if_neg (by rintro ⟨a, b⟩; exact h2 ⟨by omega, b⟩)]
theorem mg_pfail {part : Bool} {x : Seg} {R : List Seg} {s : Bs} {vs : List Bs} (hp : x.isParam = true) (ho : x.optional = false) (hl : paramLen s x = 0) : matchGo chk0 part (x :: R) s vs = none := by
  conv => lhs; unfold matchGo
  simp only [hp, ho, hl, Bool.not_true, Bool.false_eq_true, if_false, Bool.not_false, true_and, if_true]
theorem mg_pgo {part : Bool} {x : Seg} {R : List Seg} {s : Bs} {vs : List Bs} (hp : x.isParam = true) (hc : x.cons = []) (ho : x.optional = true ∨ paramLen s x ≠ 0) : matchGo chk0 part (x :: R) s vs = matchGo chk0 part R (s.drop (paramLen s x)) (vs ++ [s.take (paramLen s x)]) := by
  conv => lhs; unfold matchGo
  have h0 : ¬ ((!x.optional) = true ∧ paramLen s x = 0) := by
    rintro ⟨h1, h2⟩
    rcases ho with h | h
    · rw [h] at h1; cases h1
    · exact h h2
  simp only [hp, hc, Bool.not_true, Bool.false_eq_true, if_false, List.any_nil, and_false, h0]
theorem mg_end {part : Bool} {s : Bs} {vs : List Bs} : matchGo chk0 part [] s vs = if s ≠ [] ∧ part = false then none else some vs := by unfold matchGo; rfl
theorem drop_at {L : List Seg} {k : Nat} {x : Seg} (h : L[k]? = some x) : L.drop k = x :: L.drop (k + 1) := drop_step h
theorem filter_drop {L : List Seg} {k : Nat} {x : Seg} (h : L[k]? = some x) (hp : x.isParam = true) : ((L.drop k).filter (·.isParam)).length = ((L.drop (k + 1)).filter (·.isParam)).length + 1 := by
  rw [drop_step h, List.filter_cons_of_pos hp]; rfl
theorem filter_drop0 {L : List Seg} {k : Nat} {x : Seg} (h : L[k]? = some x) (hp : x.isParam = false) : ((L.drop k).filter (·.isParam)).length = ((L.drop (k + 1)).filter (·.isParam)).length := by
  rw [drop_step h, List.filter_cons_of_neg (by simp [hp])]
end Go.Proofs.YtiebedcldbmlhaaGreatDoor
namespace Go.Proofs.YtiebedcldbmlhaaGreatDoor
open Go.RowKit
set_option linter.unusedVariables false

/-- The values so far, in the array of thirty texts. -/
structure Arr (A : Nat) (w wr : World) (vs : List Bs) : Prop where
  touch : Touch [A] w wr
  arr : ∃ cur, wr.heap[A]? = some (.cells cur 81 (0, 0)) ∧ cur.size = 30 ∧ ∀ (i : Nat) (v : Bs), vs[i]? = some v → cur[i]? = some (Value.string (bs v))

theorem Arr.below {A : Nat} {w wr w2 : World} {vs : List Bs} (h : Arr A w wr vs) (hb : Below wr.heap.size wr w2) : Arr A w w2 vs := by
  obtain ⟨cur, h1, h2, h3⟩ := h.arr
  exact ⟨h.touch.trans (touch_below hb), cur, (hb.block A (lt_of_obj h1)).trans h1, h2, h3⟩
theorem Arr.drewN {A : Nat} {w wr : World} {vs : List Bs} (h : Arr A w wr vs) (n : Nat) : Arr A w (wr.drewN n) vs := ⟨⟨h.touch.os, h.touch.tape, h.touch.output, h.touch.size, h.touch.block⟩, h.arr⟩
theorem Arr.push {A : Nat} {w wr : World} {vs : List Bs} (h : Arr A w wr vs) (v : Bs) (hl : vs.length < 30) : Arr A w (wr.setCell ⟨A, vs.length, none⟩ (.string (bs v))) (vs ++ [v]) := by
  obtain ⟨cur, h1, h2, h3⟩ := h.arr
  refine ⟨h.touch.trans (touch_set _ (by simp)), cur.setIfInBounds vs.length (.string (bs v)), obj_set _ h1, by simpa using h2, fun i u hu => ?_⟩
  by_cases hi : i < vs.length
  · rw [List.getElem?_append_left hi] at hu
    rw [Array.getElem?_setIfInBounds_ne (by omega)]
    exact h3 i u hu
  · rw [List.getElem?_append_right (by omega)] at hu
    obtain ⟨hl2, hu2⟩ := List.getElem?_eq_some_iff.1 hu
    have hi0 : i - vs.length = 0 := by simp at hl2; omega
    obtain rfl : v = u := by simpa [hi0] using hu2
    obtain rfl : i = vs.length := by omega
    rw [Array.getElem?_setIfInBounds_self_of_lt (by omega)]
theorem Arr.cell {A : Nat} {w wr : World} {vs : List Bs} (h : Arr A w wr vs) {i : Nat} (hi : i < 30) : (∃ v, wr.cell? ⟨A, i, none⟩ = some v) ∧ wr.frozen? ⟨A, i, none⟩ = false := by
  obtain ⟨cur, h1, h2, h3⟩ := h.arr
  exact ⟨⟨cur[i]'(by omega), obj_cell h1 (Array.getElem?_eq_getElem (by omega))⟩, obj_free h1⟩

theorem cell_far {w : World} {a : Addr} {b i : Nat} {v x : Value} (hb : b ≠ a.block) (hc : w.cell? a = some x) : (w.setCell ⟨b, i, none⟩ v).cell? a = some x :=
  (World.cell?_setCell_other w ⟨b, i, none⟩ a v (fun e => hb (congrArg Addr.block e))).trans hc
theorem take_ext0 (s : ByteArray) (k : Nat) : (s.extract 0 k).data.toList = s.data.toList.take k := by rw [extract_range]; simp
theorem str_iff (a b : ByteArray) : (a.toList == b.toList) = true ↔ a.data.toList = b.data.toList := by
  rw [Lib.toList_data, Lib.toList_data, beq_iff_eq]

end Go.Proofs.YtiebedcldbmlhaaGreatDoor
namespace Go.Proofs.YtiebedcldbmlhaaGreatDoor
open Go.RowKit
set_option linter.unusedVariables false

/-- The table that Itoa reads lies below. -/
def EnvZ (w : World) : Prop := ∃ B, B ≤ w.heap.size ∧ Lib.TabBelow Tryz.prog B w "internal/strconv.uint64pow10" .u64 Lib.pow10Tab
theorem EnvZ.below {w w' : World} (h : EnvZ w) (hb : Below w.heap.size w w') : EnvZ w' := by
  obtain ⟨B, h1, h2⟩ := h
  exact ⟨B, Nat.le_trans h1 hb.size, h2.on (hb.mono h1)⟩

/-- What a match gives: the values, or nothing. -/
def Matched (w : World) (res : Option (List Bs)) (w' : World) (v : Value) (is : Bool) : Prop :=
  match res with
  | some vs => is = true ∧ w'.ownsRow w.heap.size 9 1 v vs.length (svals vs)
  | none => is = false ∧ v = .slice none 0 0

theorem results_cell3 {fn : Func} {p u q : Tmp} {a b c : TypeId} (h : fn.results = #[.cell p a, .cell u b, .cell q c]) (tmps : Array Value) (P : Program) (w : World) :
    (results fn tmps).run P w =
      ((asAddr (tmps.getD p undef)).run P w).andThen fun a1 w1 => ((loadVar a a1).run P w1).andThen fun v1 w2 => ((asAddr (tmps.getD u undef)).run P w2).andThen fun a2 w3 => ((loadVar b a2).run P w3).andThen fun v2 w4 =>
        ((asAddr (tmps.getD q undef)).run P w4).andThen fun a3 w5 => ((loadVar c a3).run P w5).andThen fun v3 w6 => .ok (.tuple #[v1, v2, v3]) w6 := by
  simp only [results, h]
  simp [Sem.run_bind, Result.andThen]

theorem drew_heap (w : World) : w.drew.heap = w.heap := rfl
/-- The stores of Values: twice the values and the answer, then the mark that nothing panicked. -/
def stored (w2 : World) (a b c : Nat) (x y z : Value) : World := (((((w2.setCell ⟨a, 0, none⟩ x).setCell ⟨b, 0, none⟩ y).setCell ⟨a, 0, none⟩ x).setCell ⟨b, 0, none⟩ y).setCell ⟨c, 0, none⟩ z).drew
theorem stored_a {w2 : World} {a b c : Nat} {x y z o : Value} {t : TypeId} (h1 : a ≠ b) (h2 : a ≠ c) (h3 : b ≠ c) (q : w2.heap[a]? = some (.cells #[o] t (0, 0))) : (stored w2 a b c x y z).heap[a]? = some (.cells #[x] t (0, 0)) := by
  have k1 : (w2.setCell ⟨a, 0, none⟩ x).heap[a]? = some (.cells #[x] t (0, 0)) := obj_set (i := 0) x q
  have k2 : ((w2.setCell ⟨a, 0, none⟩ x).setCell ⟨b, 0, none⟩ y).heap[a]? = some (.cells #[x] t (0, 0)) := (Below.heap_setCell _ ⟨b, 0, none⟩ y a h1).trans k1
  have k3 : (((w2.setCell ⟨a, 0, none⟩ x).setCell ⟨b, 0, none⟩ y).setCell ⟨a, 0, none⟩ x).heap[a]? = some (.cells #[x] t (0, 0)) := obj_set (i := 0) x k2
  have k4 := (Below.heap_setCell (((w2.setCell ⟨a, 0, none⟩ x).setCell ⟨b, 0, none⟩ y).setCell ⟨a, 0, none⟩ x) ⟨b, 0, none⟩ y a h1).trans k3
  unfold stored
  rw [drew_heap, Below.heap_setCell _ ⟨c, 0, none⟩ z a h2]
  exact k4
theorem stored_b {w2 : World} {a b c : Nat} {x y z o : Value} {t : TypeId} (h1 : a ≠ b) (h2 : a ≠ c) (h3 : b ≠ c) (q : w2.heap[b]? = some (.cells #[o] t (0, 0))) : (stored w2 a b c x y z).heap[b]? = some (.cells #[y] t (0, 0)) := by
  have k1 := (Below.heap_setCell w2 ⟨a, 0, none⟩ x b (Ne.symm h1)).trans q
  have k2 : ((w2.setCell ⟨a, 0, none⟩ x).setCell ⟨b, 0, none⟩ y).heap[b]? = some (.cells #[y] t (0, 0)) := obj_set (i := 0) y k1
  have k3 := (Below.heap_setCell ((w2.setCell ⟨a, 0, none⟩ x).setCell ⟨b, 0, none⟩ y) ⟨a, 0, none⟩ x b (Ne.symm h1)).trans k2
  have k4 : ((((w2.setCell ⟨a, 0, none⟩ x).setCell ⟨b, 0, none⟩ y).setCell ⟨a, 0, none⟩ x).setCell ⟨b, 0, none⟩ y).heap[b]? = some (.cells #[y] t (0, 0)) := obj_set (i := 0) y k3
  unfold stored
  rw [drew_heap, Below.heap_setCell _ ⟨c, 0, none⟩ z b h3]
  exact k4
theorem stored_keep {w2 : World} {a b c : Nat} {x y z : Value} (k : Nat) (h1 : k ≠ a) (h2 : k ≠ b) (h3 : k ≠ c) : (stored w2 a b c x y z).heap[k]? = w2.heap[k]? := by
  have k1 := Below.heap_setCell w2 ⟨a, 0, none⟩ x k h1
  have k2 := (Below.heap_setCell (w2.setCell ⟨a, 0, none⟩ x) ⟨b, 0, none⟩ y k h2).trans k1
  have k3 := (Below.heap_setCell ((w2.setCell ⟨a, 0, none⟩ x).setCell ⟨b, 0, none⟩ y) ⟨a, 0, none⟩ x k h1).trans k2
  have k4 := (Below.heap_setCell (((w2.setCell ⟨a, 0, none⟩ x).setCell ⟨b, 0, none⟩ y).setCell ⟨a, 0, none⟩ x) ⟨b, 0, none⟩ y k h2).trans k3
  unfold stored
  rw [drew_heap, Below.heap_setCell _ ⟨c, 0, none⟩ z k h3]
  exact k4
theorem stored_c {w2 : World} {a b c : Nat} {x y z o : Value} {t : TypeId} (h1 : a ≠ b) (h2 : a ≠ c) (h3 : b ≠ c) (q : w2.heap[c]? = some (.cells #[o] t (0, 0))) : (stored w2 a b c x y z).heap[c]? = some (.cells #[z] t (0, 0)) := by
  have k1 := (Below.heap_setCell w2 ⟨a, 0, none⟩ x c (Ne.symm h2)).trans q
  have k2 := (Below.heap_setCell (w2.setCell ⟨a, 0, none⟩ x) ⟨b, 0, none⟩ y c (Ne.symm h3)).trans k1
  have k3 := (Below.heap_setCell ((w2.setCell ⟨a, 0, none⟩ x).setCell ⟨b, 0, none⟩ y) ⟨a, 0, none⟩ x c (Ne.symm h2)).trans k2
  have k4 := (Below.heap_setCell (((w2.setCell ⟨a, 0, none⟩ x).setCell ⟨b, 0, none⟩ y).setCell ⟨a, 0, none⟩ x) ⟨b, 0, none⟩ y c (Ne.symm h3)).trans k3
  unfold stored
  rw [drew_heap]
  exact obj_set (i := 0) z k4
theorem stored_below {w w2 : World} {B a b c : Nat} {x y z : Value} (h : Below B w w2) (h1 : B ≤ a) (h2 : B ≤ b) (h3 : B ≤ c) : Below B w (stored w2 a b c x y z) :=
  (((((h.setCell (p := ⟨a, 0, none⟩) h1 x).setCell (p := ⟨b, 0, none⟩) h2 y).setCell (p := ⟨a, 0, none⟩) h1 x).setCell (p := ⟨b, 0, none⟩) h2 y).setCell (p := ⟨c, 0, none⟩) h3 z).drew

/-- The deferred closure of Values, where nothing panicked. -/
theorem catch_idle (a b c : Addr) (w : World) :
    CallsD Tryz.prog 32 #[.pointer (some a), .pointer (some b), .pointer (some c)] .returning w fun e u' w' => e = .returned (.tuple #[]) ∧ u' = .returning ∧ w' = w := by
  refine callsD_of_wpS Tryz.func32 rfl fun c₀ cs hu => ?_
  apply wpS_seq
  apply wpS_region
  simp [wpOpsS, go_sem, recoverD, hu, Tryz.ntmps32, Exit.thenS]
  refine wpS_cond (t := false) (by simp [Act.eval, Array.replicate]) ?_
  simp only [Bool.false_eq_true, if_false]
  refine wpS_of_wp (wp_skip ?_)
  cases c₀
  simp_all [bodyPostS, results, Tryz.results32]

end Go.Proofs.YtiebedcldbmlhaaGreatDoor
