/-
  The thin function Fulfils hands a constraint with data on to CheckConstraint. Conditions: at least one datum and at most 1000.
-/
import Derived.Test.YtiebedcldbmlhaaDoorC
import Derived.Deep.RegionLawGrows
import Derived.Deep.RegionHeld3
import Derived.RegionTactic
import Derived.Deep.AppendLies
namespace Go.Proofs.YtiebedcldbmlhaaDoor
open Go.RowKit
set_option linter.unusedVariables false

theorem info9 : (Tryd.prog.info? 9).map (fun i => (i.zero, i.size, i.bytes)) = some (some (.string ByteArray.empty), 1, 16) := by kernel_rfl

theorem strs_cells {w : World} {b off : Nat} {ds : List ByteArray} (h : StrCells w b off ds) : ∀ j u, (ds.map Value.string)[j]? = some u → w.cell? ((⟨b, off, none⟩ : Addr).add j) = some u := by
  intro j u hu
  rw [List.getElem?_map] at hu
  obtain ⟨s, hs, rfl⟩ := Option.map_eq_some_iff.1 hu
  obtain ⟨hj, hs'⟩ := List.getElem?_eq_some_iff.1 hs
  have := h j hj
  have e : (⟨b, off, none⟩ : Addr).add j = ⟨b, off + j, none⟩ := by
    unfold Addr.add; split
    · rename_i h0; simp_all
    · rfl
  rw [e, this]; simp [List.getD, hs]

theorem strs_one (ds : List ByteArray) : ∀ u ∈ ds.map Value.string, u.oneCell' = true := by
  intro u hu
  obtain ⟨s, _, rfl⟩ := List.mem_map.1 hu
  rfl

theorem StrCells.below {B : Nat} {w w' : World} {b off : Nat} {ds : List ByteArray} (h : StrCells w b off ds) (hb : Below B w w') (hB : b < B) : StrCells w' b off ds :=
  fun i hi => (hb.cell (p := ⟨b, off + i, none⟩) hB).trans (h i hi)

theorem own_some {w : World} {base : Nat} {e : TypeId} {v : Value} {n : Nat} {xs : List Value} (h : w.ownsRow base e 1 v n xs) (hn : 0 < n) :
    ∃ g cap, v = .slice (some ⟨g, 0, none⟩) n cap ∧ base ≤ g ∧ g < w.heap.size ∧ ∀ j u, xs[j]? = some u → w.cell? ⟨g, j, none⟩ = some u := by
  have hc := fun g hg => h.cells (g := g) hg
  obtain ⟨_, ⟨_, h0⟩ | ⟨g, cap, cur, rfl, hb, hh, _⟩⟩ := h
  · omega
  · refine ⟨g, cap, rfl, hb, (Array.getElem?_eq_some_iff.1 hh).1, fun j u hu => ?_⟩
    have := hc g rfl j u hu
    have e : (⟨g, 0, none⟩ : Addr).add j = ⟨g, j, none⟩ := by
      unfold Addr.add; split
      · rename_i h0; simp_all
      · simp
    rwa [e] at this

theorem wrap16 (k : Int) (h0 : 0 ≤ k) (h1 : k < 32768) : IntKind.i16.wrap k = k := by
  have e : k % (2 ^ IntKind.i16.bits : Int) = k := Int.emod_eq_of_lt h0 (by simp [IntKind.bits]; omega)
  simp only [IntKind.wrap, e]
  rw [if_neg]
  simp [IntKind.bits]; omega

theorem old_cell {w w1 : World} (hg : w.grownBy w1 none) {a : Addr} {v : Value} (h : w.cell? a = some v) : w1.cell? a = some v :=
  (hg.cell_far a (cell_lt h) (by simp)).trans h

def objCell : Obj → Nat → Option Value
  | .cells c _ _, i => c[i]?
  | _, _ => none
theorem cell_alloc (w : World) (o : Obj) (b i : Nat) : (w.alloc o).cell? ⟨b, i, none⟩ = if b = w.heap.size then objCell o i else w.cell? ⟨b, i, none⟩ := by
  by_cases h : b = w.heap.size
  · subst h
    have : (w.alloc o).heap[w.heap.size]? = some o := by show (w.heap.push o)[w.heap.size]? = _; simp
    rw [if_pos rfl]
    simp only [World.cell?, this]
    cases o <;> simp [objCell]
  · rw [if_neg h]
    have : (w.alloc o).heap[b]? = w.heap[b]? := by show (w.heap.push o)[b]? = _; rw [Array.getElem?_push, if_neg h]
    simp only [World.cell?, this]

theorem below_grown {w w1 : World} (hg : w.grownBy w1 none) : Below w.heap.size w w1 := ⟨hg.os, hg.tape, hg.output, hg.size, fun k hk => hg.block k hk (by simp)⟩
theorem bcell {W w1 : World} (hb : Below W.heap.size W w1) : (∀ b o, b < W.heap.size → w1.cell? ⟨b, o, none⟩ = W.cell? ⟨b, o, none⟩) ∧ (∀ b o, b < W.heap.size → w1.frozen? ⟨b, o, none⟩ = W.frozen? ⟨b, o, none⟩) :=
  ⟨fun b o h => hb.cell (p := ⟨b, o, none⟩) h, fun b o h => hb.frozen (p := ⟨b, o, none⟩) h⟩

/-- append of something to an empty slice without capacity: a new row. -/
theorem step_append_new {P : Program} {ops : Array Oper} {o : Oper} {a : Act} {w : World} {K : Act → World → Prop} {Q : Exit → Act → World → Prop} {E : Prop}
    (hg : o.guard = none) (s x : Operand) (t : TypeId) (hop : o.op = Op.call { callee := Callee.builtin Builtin.append, args := #[s, x], argTypes := #[t, t] })
    (e : TypeId) (i : TypeInfo) (z : Value) (bytes : Nat) (h1 : P.underlying t = some (.slice e)) (h2 : P.info? e = some i) (h3 : i.zero = some z) (h4 : i.size = 1) (h5 : i.bytes = bytes) (h6 : z.cells.size = 1)
    (ao : Option Addr) (hs : a.eval s = .slice ao 0 0)
    (ad : Addr) (m c : Nat) (news : List Value) (hx : a.eval x = .slice (some ad) m c) (hn : news.length = m) (hc : ∀ j u, news[j]? = some u → w.cell? (ad.add j) = some u) (h1c : ∀ u ∈ news, u.oneCell' = true)
    (hm : 0 < m) (b1 : m ≤ maxLen) (b2 : m * bytes ≤ 140737488355328)
    (hK : ∀ g cap w', w.heap.size ≤ g → g < w'.heap.size → (∀ j u, news[j]? = some u → w'.cell? ⟨g, j, none⟩ = some u) → w.grownBy w' none → K (a.put o.dst (.slice (some ⟨g, 0, none⟩) m cap)) w') :
    if Region.wanted o (yielded ops a.tmps) = true then Oper.wp P o a w K Q else E :=
  step_append_grows hg s x t hop e i z 1 bytes h1 h2 h3 h4 h5 h6 (by decide) ao 0 0 [] hs (fun _ => ⟨rfl, rfl⟩) rfl (fun _ _ j u hu => by simp at hu) ad m c news hx (by omega) hc h1c (by omega) (by omega) (by rw [Nat.zero_add]; exact b2)
    (fun v' w' hown hgrow => by
      rw [Nat.zero_add, List.nil_append] at hown
      obtain ⟨g, cap, rfl, hb, hl, hcs⟩ := own_some hown hm
      exact hK g cap w' hb hl hcs hgrow)

theorem strs_of_cells {w : World} {g : Nat} {ds : List ByteArray} (h : ∀ j u, (ds.map Value.string)[j]? = some u → w.cell? ⟨g, j, none⟩ = some u) : StrCells w g 0 ds := by
  intro i hi
  have := h i (.string (ds.getD i ByteArray.empty)) (by rw [List.getElem?_map]; simp [List.getD, hi])
  simpa using this

/-- What the call of CheckConstraint finds. -/
def Ready (w : World) (kind : Int) (p g n cap : Nat) (ds : List ByteArray) (W : World) : Prop :=
  Below w.heap.size w W ∧ W.cell? ⟨p, 0, none⟩ = some (.int .i16 kind) ∧ W.cell? ⟨p, 1, none⟩ = some (.slice (some ⟨g, 0, none⟩) n cap) ∧ StrCells W g 0 ds

theorem ready_set {w w0 w1 : World} {kind : Int} {p g n cap : Nat} {ds : List ByteArray} {u v : Value} (h0 : Below w.heap.size w w0) (hg : w0.grownBy w1 none) (hp : w.heap.size ≤ p) (hgp : w0.heap.size ≤ g)
    (hcs : ∀ j u, (ds.map Value.string)[j]? = some u → w1.cell? ⟨g, j, none⟩ = some u) (c0 : w0.cell? ⟨p, 0, none⟩ = some u) (c1 : w0.cell? ⟨p, 1, none⟩ = some v) :
    Ready w kind p g n cap ds ((w1.setCell ⟨p, 0, none⟩ (.int .i16 kind)).setCell ⟨p, 1, none⟩ (.slice (some ⟨g, 0, none⟩) n cap)) := by
  have hl := cell_lt c0
  have d0 := old_cell hg c0
  have d1 := old_cell hg c1
  have hpg : p ≠ g := by simp at hl; omega
  refine ⟨((h0.trans ((below_grown hg).mono h0.size)).setCell hp _).setCell hp _, ?_, ?_, strs_of_cells fun j u hu => ?_⟩
  · rw [World.cell?_setCell_other _ _ _ _ (by simp)]
    exact World.cell?_setCell_same _ _ _ d0
  · exact World.cell?_setCell_same _ _ _ ((World.cell?_setCell_other _ _ _ _ (by simp)).trans d1)
  · rw [World.cell?_setCell_far _ _ _ _ hpg, World.cell?_setCell_far _ _ _ _ hpg]
    exact hcs j u hu

theorem ready_alloc {w w0 w1 : World} {kind : Int} {g n cap : Nat} {ds : List ByteArray} (h0 : Below w.heap.size w w0) (hg : w0.grownBy w1 none) 
    (hcs : ∀ j u, (ds.map Value.string)[j]? = some u → w1.cell? ⟨g, j, none⟩ = some u) :
    Ready w kind w1.heap.size g n cap ds (w1.alloc (.cells #[.int .i16 kind, .slice (some ⟨g, 0, none⟩) n cap] 37)) := by
  have hb := h0.trans ((below_grown hg).mono h0.size)
  refine ⟨hb.alloc hb.size _, by simp, by simp, strs_of_cells fun j u hu => ?_⟩
  have := hcs j u hu
  rw [World.cell?_alloc_lt _ _ _ (cell_lt this)]
  exact this

set_option maxHeartbeats 1000000 in
set_option maxRecDepth 100000 in
theorem fulfils_some (kind : Int) (b off n cap : Nat) (s : ByteArray) (ds : List ByteArray) (w : World) (hE : Env w) (hk1 : 1 ≤ kind) (hk2 : kind ≤ 15) (hn : 1 ≤ n) (hds : ds.length = n) (hmax : n ≤ 1000)
    (hc : StrCells w b off ds) (X : Bool) 
    (hX : ∀ (p g cap' : Nat) (w' : World), Below w.heap.size w w' → w'.cell? ⟨p, 0, none⟩ = some (.int .i16 kind) → w'.cell? ⟨p, 1, none⟩ = some (.slice (some ⟨g, 0, none⟩) n cap') → StrCells w' g 0 ds → 
      Calls Tryd.prog 11 #[.pointer (some ⟨p, 0, none⟩), .string s] w' fun e w'' => e = .returned (.bool X) ∧ Below w'.heap.size w' w'') :
    Calls Tryd.prog 6 #[.agg #[.int .i64 kind, .slice (some ⟨b, off, none⟩) n cap], .string s] w fun e w' => e = .returned (.bool X) ∧ Below w.heap.size w w' := by
  have hb : b < w.heap.size := by have := cell_lt (hc 0 (by omega)); exact this
  have hlen : (ds.map Value.string).length = n := by simp [hds]
  have HX := Lib.hid hX
  clear hX
  have HW := Lib.hid (fun (w' : World) (h : Below w.heap.size w w') => strs_cells (hc.below h hb))
  have HC := Lib.hid hc
  clear hc
  have HD := Lib.hid hds
  have HL := Lib.hid hlen
  clear hlen
  clear hds
  obtain ⟨i0, hi, hz0, hz1, hz2⟩ := info_parts info9
  have hwr : IntKind.i16.wrap kind = kind := wrap16 kind (by omega) (by omega)
  go_enter Tryd.func6, Tryd.ntmps6
  go_wp2
  go_region_held3 (fun w' => w'.cell? ⟨w.heap.size, 0, none⟩ = some (.int .i64 kind) ∧ w'.cell? ⟨w.heap.size, 1, none⟩ = some (.slice (some ⟨b, off, none⟩) n cap)) (first | (go_keep; done) | (go_split_ands; refine ⟨?_, ?_⟩ <;> (rw [World.cell?_setCell_far _ _ _ _ (by simp; try omega), World.cell?_setCell_far _ _ _ _ (by simp; try omega)]; assumption)))
    ((refine step_append_new rfl _ _ 23 (by rfl) 9 i0 (.string ByteArray.empty) 16 Tryd.underlying23 hi hz0 hz1 hz2 rfl _ (by rfl) ⟨b, off, none⟩ n cap (ds.map Value.string) (by rfl) HL.out (HW.out _ (by repeat (first | exact Below.refl _ _ | refine Below.drew ?_ | refine Below.alloc ?_ (by simp; try omega) _))) (strs_one ds) (by omega) (by unfold maxLen; omega) (by omega) ?_; intro g cap' w1 hg1 hg2 hcs hgrow; have k0 : w1.cell? ⟨w.heap.size, 0, none⟩ = some (.int .i64 kind) := old_cell hgrow (by (go_split_ands; assumption)); have k1 : w1.cell? ⟨w.heap.size, 1, none⟩ = some (.slice (some ⟨b, off, none⟩) n cap) := old_cell hgrow (by (go_split_ands; assumption)); have kz := cell_lt k0; obtain ⟨kc, kf⟩ := bcell (below_grown hgrow)))
  · have F := Lib.hid (ready_alloc (w := w) (kind := kind) (cap := cap') (n := n) (by repeat (first | exact Below.refl _ _ | refine Below.drew ?_ | refine Below.alloc ?_ (by simp; try omega) _)) hgrow hcs)
    clear kc kf hgrow hcs k0 k1 kz hg1 hg2
    go_wp2_with fail
    have HY := Lib.hid (HX.out _ g cap' _ F.out.1 F.out.2.1 F.out.2.2.1 F.out.2.2.2)
    with_reducible refine HY.out.mono ?_
    rintro e w2 ⟨rfl, hb2⟩
    have HB := Lib.hid (F.out.1.trans (hb2.mono F.out.1.size))
    clear hb2
    go_wp2
    go_ret
    exact ⟨rfl, HB.out⟩
  · have F := Lib.hid (ready_set (w := w) (kind := kind) (cap := cap') (n := n) (p := w.heap.size + 1 + 1) (by repeat (first | exact Below.refl _ _ | refine Below.drew ?_ | refine Below.alloc ?_ (by simp; try omega) _)) hgrow (by omega) hg1 hcs (u := .int .i16 0) (v := .slice none 0 0) (by simp [cell_alloc, objCell]) (by simp [cell_alloc, objCell]))
    clear kc kf hgrow hcs k0 k1 kz hg1 hg2
    go_wp2_with fail
    have HY := Lib.hid (HX.out _ g cap' _ F.out.1 F.out.2.1 F.out.2.2.1 F.out.2.2.2)
    with_reducible refine HY.out.mono ?_
    rintro e w2 ⟨rfl, hb2⟩
    have HB := Lib.hid (F.out.1.trans (hb2.mono F.out.1.size))
    clear hb2
    go_wp2
    go_ret
    exact ⟨rfl, HB.out⟩
  · have F := Lib.hid (ready_set (w := w) (kind := kind) (cap := cap') (n := n) (p := w.heap.size + 1) (by repeat (first | exact Below.refl _ _ | refine Below.drew ?_ | refine Below.alloc ?_ (by simp; try omega) _)) hgrow (by omega) hg1 hcs (u := .int .i16 0) (v := .slice none 0 0) (by simp [cell_alloc, objCell]) (by simp [cell_alloc, objCell]))
    clear kc kf hgrow hcs k0 k1 kz hg1 hg2
    go_wp2_with fail
    have HY := Lib.hid (HX.out _ g cap' _ F.out.1 F.out.2.1 F.out.2.2.1 F.out.2.2.2)
    with_reducible refine HY.out.mono ?_
    rintro e w2 ⟨rfl, hb2⟩
    have HB := Lib.hid (F.out.1.trans (hb2.mono F.out.1.size))
    clear hb2
    go_wp2
    go_ret
    exact ⟨rfl, HB.out⟩
end Go.Proofs.YtiebedcldbmlhaaDoor
