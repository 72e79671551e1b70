/-
  Small laws on worlds, new rows and appends, of whatever program. Conditions: none beyond each law's own.
-/
import Derived.Test.YtiebedcldbmlhaaGreatDoorC
import Derived.Deep.RegionLawGrows
import Derived.Deep.RegionHeld3
import Derived.RegionTactic
import Derived.Deep.AppendLies
namespace Go.Proofs.YtiebedcldbmlhaaGreatDoor
open Go.RowKit
set_option linter.unusedVariables false

theorem own_some {w : World} {base : Nat} {e : TypeId} {v : Value} {n : Nat} {xs : List Value} (h : w.ownsRow base e 1 v n xs) (hn : 0 < n) :
    ∃ g cap, v = .slice (some ⟨g, 0, none⟩) n cap ∧ base ≤ g ∧ g < w.heap.size ∧ ∀ j u, xs[j]? = some u → w.cell? ⟨g, j, none⟩ = some u := by
  have hc := fun g hg => h.cells (g := g) hg
  obtain ⟨_, ⟨_, h0⟩ | ⟨g, cap, cur, rfl, hb, hh, _⟩⟩ := h
  · omega
  · refine ⟨g, cap, rfl, hb, (Array.getElem?_eq_some_iff.1 hh).1, fun j u hu => ?_⟩
    have := hc g rfl j u hu
    have e : (⟨g, 0, none⟩ : Addr).add j = ⟨g, j, none⟩ := by
      unfold Addr.add; split
      · rename_i h0; simp_all
      · simp
    rwa [e] at this

theorem wrap16 (k : Int) (h0 : 0 ≤ k) (h1 : k < 32768) : IntKind.i16.wrap k = k := by
  have e : k % (2 ^ IntKind.i16.bits : Int) = k := Int.emod_eq_of_lt h0 (by simp [IntKind.bits]; omega)
  simp only [IntKind.wrap, e]
  rw [if_neg]
  simp [IntKind.bits]; omega

theorem old_cell {w w1 : World} (hg : w.grownBy w1 none) {a : Addr} {v : Value} (h : w.cell? a = some v) : w1.cell? a = some v :=
  (hg.cell_far a (cell_lt h) (by simp)).trans h

def objCell : Obj → Nat → Option Value
  | .cells c _ _, i => c[i]?
  | _, _ => none
theorem cell_alloc (w : World) (o : Obj) (b i : Nat) : (w.alloc o).cell? ⟨b, i, none⟩ = if b = w.heap.size then objCell o i else w.cell? ⟨b, i, none⟩ := by
  by_cases h : b = w.heap.size
  · subst h
    have : (w.alloc o).heap[w.heap.size]? = some o := by show (w.heap.push o)[w.heap.size]? = _; simp
    rw [if_pos rfl]
    simp only [World.cell?, this]
    cases o <;> simp [objCell]
  · rw [if_neg h]
    have : (w.alloc o).heap[b]? = w.heap[b]? := by show (w.heap.push o)[b]? = _; rw [Array.getElem?_push, if_neg h]
    simp only [World.cell?, this]

theorem below_grown {w w1 : World} (hg : w.grownBy w1 none) : Below w.heap.size w w1 := ⟨hg.os, hg.tape, hg.output, hg.size, fun k hk => hg.block k hk (by simp)⟩
theorem bcell {W w1 : World} (hb : Below W.heap.size W w1) : (∀ b o, b < W.heap.size → w1.cell? ⟨b, o, none⟩ = W.cell? ⟨b, o, none⟩) ∧ (∀ b o, b < W.heap.size → w1.frozen? ⟨b, o, none⟩ = W.frozen? ⟨b, o, none⟩) :=
  ⟨fun b o h => hb.cell (p := ⟨b, o, none⟩) h, fun b o h => hb.frozen (p := ⟨b, o, none⟩) h⟩

/-- append of something to an empty slice without capacity: a new row. -/
theorem step_append_new {P : Program} {ops : Array Oper} {o : Oper} {a : Act} {w : World} {K : Act → World → Prop} {Q : Exit → Act → World → Prop} {E : Prop}
    (hg : o.guard = none) (s x : Operand) (t : TypeId) (hop : o.op = Op.call { callee := Callee.builtin Builtin.append, args := #[s, x], argTypes := #[t, t] })
    (e : TypeId) (i : TypeInfo) (z : Value) (bytes : Nat) (h1 : P.underlying t = some (.slice e)) (h2 : P.info? e = some i) (h3 : i.zero = some z) (h4 : i.size = 1) (h5 : i.bytes = bytes) (h6 : z.cells.size = 1)
    (ao : Option Addr) (hs : a.eval s = .slice ao 0 0)
    (ad : Addr) (m c : Nat) (news : List Value) (hx : a.eval x = .slice (some ad) m c) (hn : news.length = m) (hc : ∀ j u, news[j]? = some u → w.cell? (ad.add j) = some u) (h1c : ∀ u ∈ news, u.oneCell' = true)
    (hm : 0 < m) (b1 : m ≤ maxLen) (b2 : m * bytes ≤ 140737488355328)
    (hK : ∀ g cap w', w.heap.size ≤ g → g < w'.heap.size → (∀ j u, news[j]? = some u → w'.cell? ⟨g, j, none⟩ = some u) → w.grownBy w' none → K (a.put o.dst (.slice (some ⟨g, 0, none⟩) m cap)) w') :
    if Region.wanted o (yielded ops a.tmps) = true then Oper.wp P o a w K Q else E :=
  step_append_grows hg s x t hop e i z 1 bytes h1 h2 h3 h4 h5 h6 (by decide) ao 0 0 [] hs (fun _ => ⟨rfl, rfl⟩) rfl (fun _ _ j u hu => by simp at hu) ad m c news hx (by omega) hc h1c (by omega) (by omega) (by rw [Nat.zero_add]; exact b2)
    (fun v' w' hown hgrow => by
      rw [Nat.zero_add, List.nil_append] at hown
      obtain ⟨g, cap, rfl, hb, hl, hcs⟩ := own_some hown hm
      exact hK g cap w' hb hl hcs hgrow)


/-- append that must grow, in a plain region: a new row. -/
theorem wpList_append_new {P : Program} (w : World) {ops : Array Oper} {rest : List Oper} {o : Oper} {a : Act} {Q : Exit → Act → World → Prop}
    (hg : o.guard = none) (s x : Operand) (t : TypeId) (hop : o.op = Op.call { callee := Callee.builtin Builtin.append, args := #[s, x], argTypes := #[t, t] })
    (e : TypeId) (i : TypeInfo) (z : Value) (bytes : Nat) (h1 : P.underlying t = some (.slice e)) (h2 : P.info? e = some i) (h3 : i.zero = some z) (h4 : i.size = 1) (h5 : i.bytes = bytes) (h6 : z.cells.size = 1)
    (ao : Option Addr) (n cap : Nat) (olds : List Value) (hs : a.eval s = .slice ao n cap) (hnone : ao = none → n = 0 ∧ cap = 0) (hlo : olds.length = n) (holds : ∀ b, ao = some b → ∀ j u, olds[j]? = some u → w.cell? (b.add j) = some u)
    (ad : Addr) (m c : Nat) (news : List Value) (hx : a.eval x = .slice (some ad) m c) (hn : news.length = m) (hc : ∀ j u, news[j]? = some u → w.cell? (ad.add j) = some u) (h1c : ∀ u ∈ news, u.oneCell' = true)
    (hfull : cap < n + m) (b1 : n + m ≤ maxLen) (b2 : (n + m) * bytes ≤ 140737488355328)
    (hK : ∀ g cap' w', w.heap.size ≤ g → g < w'.heap.size → (∀ j u, (olds ++ news)[j]? = some u → w'.cell? ⟨g, j, none⟩ = some u) → w.grownBy w' none → wpList P ops Q rest (a.put o.dst (.slice (some ⟨g, 0, none⟩) (n + m) cap')) w') :
    wpList P ops Q (o :: rest) a w :=
  wpList_append_grows w hg s x t hop e i z 1 bytes h1 h2 h3 h4 h5 h6 (by decide) ao n cap olds hs hnone (by omega) holds ad m c news hx (by omega) hc h1c hfull b1 b2
    (fun v' w' hown hgrow => by
      obtain ⟨g, cap', rfl, hb, hl, hcs⟩ := own_some hown (by omega)
      exact hK g cap' w' hb hl hcs hgrow)

theorem add_cell (b off j : Nat) : (⟨b, off, none⟩ : Addr).add j = ⟨b, off + j, none⟩ := by
  unfold Addr.add; split
  · rename_i h0; simp_all
  · rfl

/-- A list of bytes as values. -/
def bvals (cs : Bs) : List Value := cs.map fun c => .int .u8 (c.toNat : Int)
theorem bvals_length (cs : Bs) : (bvals cs).length = cs.length := by simp [bvals]
theorem bvals_append (a b : Bs) : bvals (a ++ b) = bvals a ++ bvals b := by simp [bvals]
theorem bvals_at {cs : Bs} {j : Nat} {u : Value} (h : (bvals cs)[j]? = some u) : j < cs.length ∧ u = .int .u8 ((cs.getD j 0).toNat : Int) := by
  unfold bvals at h
  rw [List.getElem?_map] at h
  obtain ⟨c, hc, rfl⟩ := Option.map_eq_some_iff.1 h
  obtain ⟨hj, _⟩ := List.getElem?_eq_some_iff.1 hc
  exact ⟨hj, by simp [List.getD, hc]⟩
theorem bvals_one (cs : Bs) : ∀ u ∈ bvals cs, u.oneCell' = true := by
  intro u hu
  obtain ⟨s, _, rfl⟩ := List.mem_map.1 hu
  rfl
theorem bytes_add {w : World} {b off : Nat} {cs : Bs} (h : ByteCells w b off cs) : ∀ j u, (bvals cs)[j]? = some u → w.cell? ((⟨b, off, none⟩ : Addr).add j) = some u := by
  intro j u hu
  obtain ⟨hj, rfl⟩ := bvals_at hu
  rw [add_cell]
  exact h j hj
theorem bytes_of {w : World} {g : Nat} {cs : Bs} (h : ∀ j u, (bvals cs)[j]? = some u → w.cell? ⟨g, j, none⟩ = some u) : ByteCells w g 0 cs := by
  intro i hi
  have := h i (.int .u8 ((cs.getD i 0).toNat : Int)) (by unfold bvals; rw [List.getElem?_map]; simp [List.getD, hi])
  simpa using this
theorem bytes_alloc (w : World) (cs : Bs) (t : TypeId) (fr : Nat × Nat) : ByteCells (w.alloc (.cells (bvals cs).toArray t fr)) w.heap.size 0 cs :=
  bytes_of fun j u hu => by rw [cell_alloc, if_pos rfl]; simpa [objCell] using hu

/-- What a function that makes a list of bytes gives. -/
def Chars (cs : Bs) (w : World) (e : Ending) (w' : World) : Prop := ∃ g cap, e = .returned (.slice (some ⟨g, 0, none⟩) cs.length cap) ∧ ByteCells w' g 0 cs ∧ w.heap.size ≤ g ∧ g < w'.heap.size ∧ Below w.heap.size w w'

theorem chars_alloc (cs : Bs) (cap : Nat) (w : World) (t : TypeId) : Chars cs w (.returned (.slice (some ⟨w.heap.size, 0, none⟩) cs.length cap)) (w.alloc (.cells (bvals cs).toArray t)) :=
  ⟨w.heap.size, cap, rfl, bytes_alloc w cs t _, Nat.le_refl _, by simp, (Below.refl _ _).alloc (Nat.le_refl _) _⟩

theorem chars65 (w : World) : Calls Tryz.prog 65 #[] w (Chars starts w) := by
  go_enter Tryz.func65, Tryz.ntmps65
  go_wp2
  go_ret
  exact chars_alloc starts 3 w 5
theorem chars71 (w : World) : Calls Tryz.prog 71 #[] w (Chars [60] w) := by
  go_enter Tryz.func71, Tryz.ntmps71
  go_wp2
  go_ret
  exact chars_alloc [60] 1 w 5
theorem chars73 (w : World) : Calls Tryz.prog 73 #[] w (Chars [62] w) := by
  go_enter Tryz.func73, Tryz.ntmps73
  go_wp2
  go_ret
  exact chars_alloc [62] 1 w 5
theorem chars76 (w : World) : Calls Tryz.prog 76 #[] w (Chars [59] w) := by
  go_enter Tryz.func76, Tryz.ntmps76
  go_wp2
  go_ret
  exact chars_alloc [59] 1 w 5
theorem chars77 (w : World) : Calls Tryz.prog 77 #[] w (Chars [40] w) := by
  go_enter Tryz.func77, Tryz.ntmps77
  go_wp2
  go_ret
  exact chars_alloc [40] 1 w 5
theorem chars78 (w : World) : Calls Tryz.prog 78 #[] w (Chars [41] w) := by
  go_enter Tryz.func78, Tryz.ntmps78
  go_wp2
  go_ret
  exact chars_alloc [41] 1 w 5
theorem chars80 (w : World) : Calls Tryz.prog 80 #[] w (Chars [44] w) := by
  go_enter Tryz.func80, Tryz.ntmps80
  go_wp2
  go_ret
  exact chars_alloc [44] 1 w 5
theorem chars97 (w : World) : Calls Tryz.prog 97 #[] w (Chars [47, 45, 46] w) := by
  go_enter Tryz.func97, Tryz.ntmps97
  go_wp2
  go_ret
  exact chars_alloc [47, 45, 46] 3 w 5

theorem info5 : (Tryz.prog.info? 5).map (fun i => (i.zero, i.size, i.bytes)) = some (some (.int .u8 0), 1, 1) := by kernel_rfl

theorem chars70 (w : World) : Calls Tryz.prog 70 #[] w (Chars delims w) := by
  obtain ⟨i0, hi, hz0, hz1, hz2⟩ := info_parts info5
  go_enter Tryz.func70, Tryz.ntmps70
  go_wp2_with fail
  refine (chars97 _).mono ?_
  rintro e w1 ⟨g, cap, rfl, hc, hg, hg2, hb⟩
  have hc0 := bytes_alloc w [58, 92] 5 (0, 0)
  have hc1 : ByteCells w1 w.heap.size 0 [58, 92] := hc0.below hb (by simp)
  have HC := Lib.hid hc
  have HC1 := Lib.hid hc1
  have HB := Lib.hid hb
  clear hc hc0 hc1 hb
  go_wp2_with (refine wpList_append_new _ rfl _ _ 23 rfl 5 i0 (.int .u8 0) 1 Tryz.underlying23 hi hz0 hz1 hz2 rfl (some ⟨w.heap.size, 0, none⟩) 2 2 (bvals [58, 92]) rfl (by intro h; cases h) rfl (by intro b hb; cases hb; exact bytes_add HC1.out) ⟨g, 0, none⟩ 3 cap (bvals [47, 45, 46]) rfl rfl (bytes_add HC.out) (bvals_one _) (by omega) (by simp [maxLen]) (by omega) ?_; intro g' cap' w2 h1 h2 h3 h4)
  go_ret
  refine ⟨g', cap', rfl, bytes_of h3, ?_, h2, ?_⟩
  · have := HB.out.size; simp at this; omega
  · exact ((Below.refl _ _).alloc (Nat.le_refl _) _).trans ((HB.out.mono (by simp)).trans ((below_grown h4).mono (by have := HB.out.size; simp at this; omega)))
end Go.Proofs.YtiebedcldbmlhaaGreatDoor
