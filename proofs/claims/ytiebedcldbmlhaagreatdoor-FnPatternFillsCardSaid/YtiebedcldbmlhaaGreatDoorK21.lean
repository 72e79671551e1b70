/-
  Joined: Small laws on worlds, new rows and appends, of whatever program; Lists of signs, and whether a sign is in a list; The last place of a sign, and the next place of a sign outside of constraints; The function findNextParamPosition answers where the next parameter begins; zzIndex and zzLastIndex, of any text; zzCount, of any text; zzIndexRune and zzContainsRune, of any text and a rune that is one byte.
  Conditions: each law's own.
-/
import Derived.Test.YtiebedcldbmlhaaGreatDoorK20
import Derived.Deep.RegionLawGrows
import Derived.Deep.RegionHeld3
import Derived.RegionTactic
import Derived.Deep.AppendLies
import Derived.Deep.QuietTactic
import Derived.BigQuiet
import Derived.Deep.RegionWith
import Derived.Laws.RangeAny
import Derived.Lib.TrimU
namespace Go.Proofs.YtiebedcldbmlhaaGreatDoor
open Go.RowKit
set_option linter.unusedVariables false

theorem own_some {w : World} {base : Nat} {e : TypeId} {v : Value} {n : Nat} {xs : List Value} (h : w.ownsRow base e 1 v n xs) (hn : 0 < n) :
    ∃ g cap, v = .slice (some ⟨g, 0, none⟩) n cap ∧ base ≤ g ∧ g < w.heap.size ∧ ∀ j u, xs[j]? = some u → w.cell? ⟨g, j, none⟩ = some u := by
  have hc := fun g hg => h.cells (g := g) hg
  obtain ⟨_, ⟨_, h0⟩ | ⟨g, cap, cur, rfl, hb, hh, _⟩⟩ := h
  · omega
  · refine ⟨g, cap, rfl, hb, (Array.getElem?_eq_some_iff.1 hh).1, fun j u hu => ?_⟩
    have := hc g rfl j u hu
    have e : (⟨g, 0, none⟩ : Addr).add j = ⟨g, j, none⟩ := by
      unfold Addr.add; split
      · rename_i h0; simp_all
      · simp
    rwa [e] at this

theorem wrap16 (k : Int) (h0 : 0 ≤ k) (h1 : k < 32768) : IntKind.i16.wrap k = k := by
  have e : k % (2 ^ IntKind.i16.bits : Int) = k := Int.emod_eq_of_lt h0 (by simp [IntKind.bits]; omega)
  simp only [IntKind.wrap, e]
  rw [if_neg]
  simp [IntKind.bits]; omega

theorem old_cell {w w1 : World} (hg : w.grownBy w1 none) {a : Addr} {v : Value} (h : w.cell? a = some v) : w1.cell? a = some v :=
  (hg.cell_far a (cell_lt h) (by simp)).trans h

def objCell : Obj → Nat → Option Value
  | .cells c _ _, i => c[i]?
  | _, _ => none
theorem cell_alloc (w : World) (o : Obj) (b i : Nat) : (w.alloc o).cell? ⟨b, i, none⟩ = if b = w.heap.size then objCell o i else w.cell? ⟨b, i, none⟩ := by
  by_cases h : b = w.heap.size
  · subst h
    have : (w.alloc o).heap[w.heap.size]? = some o := by show (w.heap.push o)[w.heap.size]? = _; simp
    rw [if_pos rfl]
    simp only [World.cell?, this]
    cases o <;> simp [objCell]
  · rw [if_neg h]
    have : (w.alloc o).heap[b]? = w.heap[b]? := by show (w.heap.push o)[b]? = _; rw [Array.getElem?_push, if_neg h]
    simp only [World.cell?, this]

theorem below_grown {w w1 : World} (hg : w.grownBy w1 none) : Below w.heap.size w w1 := ⟨hg.os, hg.tape, hg.output, hg.size, fun k hk => hg.block k hk (by simp)⟩
theorem bcell {W w1 : World} (hb : Below W.heap.size W w1) : (∀ b o, b < W.heap.size → w1.cell? ⟨b, o, none⟩ = W.cell? ⟨b, o, none⟩) ∧ (∀ b o, b < W.heap.size → w1.frozen? ⟨b, o, none⟩ = W.frozen? ⟨b, o, none⟩) :=
  ⟨fun b o h => hb.cell (p := ⟨b, o, none⟩) h, fun b o h => hb.frozen (p := ⟨b, o, none⟩) h⟩

/-- append of something to an empty slice without capacity: a new row. -/
theorem step_append_new {P : Program} {ops : Array Oper} {o : Oper} {a : Act} {w : World} {K : Act → World → Prop} {Q : Exit → Act → World → Prop} {E : Prop}
    (hg : o.guard = none) (s x : Operand) (t : TypeId) (hop : o.op = Op.call { callee := Callee.builtin Builtin.append, args := #[s, x], argTypes := #[t, t] })
    (e : TypeId) (i : TypeInfo) (z : Value) (bytes : Nat) (h1 : P.underlying t = some (.slice e)) (h2 : P.info? e = some i) (h3 : i.zero = some z) (h4 : i.size = 1) (h5 : i.bytes = bytes) (h6 : z.cells.size = 1)
    (ao : Option Addr) (hs : a.eval s = .slice ao 0 0)
    (ad : Addr) (m c : Nat) (news : List Value) (hx : a.eval x = .slice (some ad) m c) (hn : news.length = m) (hc : ∀ j u, news[j]? = some u → w.cell? (ad.add j) = some u) (h1c : ∀ u ∈ news, u.oneCell' = true)
    (hm : 0 < m) (b1 : m ≤ maxLen) (b2 : m * bytes ≤ 140737488355328)
    (hK : ∀ g cap w', w.heap.size ≤ g → g < w'.heap.size → (∀ j u, news[j]? = some u → w'.cell? ⟨g, j, none⟩ = some u) → w.grownBy w' none → K (a.put o.dst (.slice (some ⟨g, 0, none⟩) m cap)) w') :
    if Region.wanted o (yielded ops a.tmps) = true then Oper.wp P o a w K Q else E :=
  step_append_grows hg s x t hop e i z 1 bytes h1 h2 h3 h4 h5 h6 (by decide) ao 0 0 [] hs (fun _ => ⟨rfl, rfl⟩) rfl (fun _ _ j u hu => by simp at hu) ad m c news hx (by omega) hc h1c (by omega) (by omega) (by rw [Nat.zero_add]; exact b2)
    (fun v' w' hown hgrow => by
      rw [Nat.zero_add, List.nil_append] at hown
      obtain ⟨g, cap, rfl, hb, hl, hcs⟩ := own_some hown hm
      exact hK g cap w' hb hl hcs hgrow)


/-- append that must grow, in a plain region: a new row. -/
theorem wpList_append_new {P : Program} (w : World) {ops : Array Oper} {rest : List Oper} {o : Oper} {a : Act} {Q : Exit → Act → World → Prop}
    (hg : o.guard = none) (s x : Operand) (t : TypeId) (hop : o.op = Op.call { callee := Callee.builtin Builtin.append, args := #[s, x], argTypes := #[t, t] })
    (e : TypeId) (i : TypeInfo) (z : Value) (bytes : Nat) (h1 : P.underlying t = some (.slice e)) (h2 : P.info? e = some i) (h3 : i.zero = some z) (h4 : i.size = 1) (h5 : i.bytes = bytes) (h6 : z.cells.size = 1)
    (ao : Option Addr) (n cap : Nat) (olds : List Value) (hs : a.eval s = .slice ao n cap) (hnone : ao = none → n = 0 ∧ cap = 0) (hlo : olds.length = n) (holds : ∀ b, ao = some b → ∀ j u, olds[j]? = some u → w.cell? (b.add j) = some u)
    (ad : Addr) (m c : Nat) (news : List Value) (hx : a.eval x = .slice (some ad) m c) (hn : news.length = m) (hc : ∀ j u, news[j]? = some u → w.cell? (ad.add j) = some u) (h1c : ∀ u ∈ news, u.oneCell' = true)
    (hfull : cap < n + m) (b1 : n + m ≤ maxLen) (b2 : (n + m) * bytes ≤ 140737488355328)
    (hK : ∀ g cap' w', w.heap.size ≤ g → g < w'.heap.size → (∀ j u, (olds ++ news)[j]? = some u → w'.cell? ⟨g, j, none⟩ = some u) → w.grownBy w' none → wpList P ops Q rest (a.put o.dst (.slice (some ⟨g, 0, none⟩) (n + m) cap')) w') :
    wpList P ops Q (o :: rest) a w :=
  wpList_append_grows w hg s x t hop e i z 1 bytes h1 h2 h3 h4 h5 h6 (by decide) ao n cap olds hs hnone (by omega) holds ad m c news hx (by omega) hc h1c hfull b1 b2
    (fun v' w' hown hgrow => by
      obtain ⟨g, cap', rfl, hb, hl, hcs⟩ := own_some hown (by omega)
      exact hK g cap' w' hb hl hcs hgrow)

theorem add_cell (b off j : Nat) : (⟨b, off, none⟩ : Addr).add j = ⟨b, off + j, none⟩ := by
  unfold Addr.add; split
  · rename_i h0; simp_all
  · rfl

/-- A list of bytes as values. -/
def bvals (cs : Bs) : List Value := cs.map fun c => .int .u8 (c.toNat : Int)
theorem bvals_length (cs : Bs) : (bvals cs).length = cs.length := by simp [bvals]
theorem bvals_append (a b : Bs) : bvals (a ++ b) = bvals a ++ bvals b := by simp [bvals]
theorem bvals_at {cs : Bs} {j : Nat} {u : Value} (h : (bvals cs)[j]? = some u) : j < cs.length ∧ u = .int .u8 ((cs.getD j 0).toNat : Int) := by
  unfold bvals at h
  rw [List.getElem?_map] at h
  obtain ⟨c, hc, rfl⟩ := Option.map_eq_some_iff.1 h
  obtain ⟨hj, _⟩ := List.getElem?_eq_some_iff.1 hc
  exact ⟨hj, by simp [List.getD, hc]⟩
theorem bvals_one (cs : Bs) : ∀ u ∈ bvals cs, u.oneCell' = true := by
  intro u hu
  obtain ⟨s, _, rfl⟩ := List.mem_map.1 hu
  rfl
theorem bytes_add {w : World} {b off : Nat} {cs : Bs} (h : ByteCells w b off cs) : ∀ j u, (bvals cs)[j]? = some u → w.cell? ((⟨b, off, none⟩ : Addr).add j) = some u := by
  intro j u hu
  obtain ⟨hj, rfl⟩ := bvals_at hu
  rw [add_cell]
  exact h j hj
theorem bytes_of {w : World} {g : Nat} {cs : Bs} (h : ∀ j u, (bvals cs)[j]? = some u → w.cell? ⟨g, j, none⟩ = some u) : ByteCells w g 0 cs := by
  intro i hi
  have := h i (.int .u8 ((cs.getD i 0).toNat : Int)) (by unfold bvals; rw [List.getElem?_map]; simp [List.getD, hi])
  simpa using this
theorem bytes_alloc (w : World) (cs : Bs) (t : TypeId) (fr : Nat × Nat) : ByteCells (w.alloc (.cells (bvals cs).toArray t fr)) w.heap.size 0 cs :=
  bytes_of fun j u hu => by rw [cell_alloc, if_pos rfl]; simpa [objCell] using hu

/-- What a function that makes a list of bytes gives. -/
def Chars (cs : Bs) (w : World) (e : Ending) (w' : World) : Prop := ∃ g cap, e = .returned (.slice (some ⟨g, 0, none⟩) cs.length cap) ∧ ByteCells w' g 0 cs ∧ w.heap.size ≤ g ∧ g < w'.heap.size ∧ Below w.heap.size w w'

theorem chars_alloc (cs : Bs) (cap : Nat) (w : World) (t : TypeId) : Chars cs w (.returned (.slice (some ⟨w.heap.size, 0, none⟩) cs.length cap)) (w.alloc (.cells (bvals cs).toArray t)) :=
  ⟨w.heap.size, cap, rfl, bytes_alloc w cs t _, Nat.le_refl _, by simp, (Below.refl _ _).alloc (Nat.le_refl _) _⟩

theorem chars65 (w : World) : Calls Tryz.prog 65 #[] w (Chars starts w) := by
  go_enter Tryz.func65, Tryz.ntmps65
  go_wp2
  go_ret
  exact chars_alloc starts 3 w 5
theorem chars71 (w : World) : Calls Tryz.prog 71 #[] w (Chars [60] w) := by
  go_enter Tryz.func71, Tryz.ntmps71
  go_wp2
  go_ret
  exact chars_alloc [60] 1 w 5
theorem chars73 (w : World) : Calls Tryz.prog 73 #[] w (Chars [62] w) := by
  go_enter Tryz.func73, Tryz.ntmps73
  go_wp2
  go_ret
  exact chars_alloc [62] 1 w 5
theorem chars76 (w : World) : Calls Tryz.prog 76 #[] w (Chars [59] w) := by
  go_enter Tryz.func76, Tryz.ntmps76
  go_wp2
  go_ret
  exact chars_alloc [59] 1 w 5
theorem chars77 (w : World) : Calls Tryz.prog 77 #[] w (Chars [40] w) := by
  go_enter Tryz.func77, Tryz.ntmps77
  go_wp2
  go_ret
  exact chars_alloc [40] 1 w 5
theorem chars78 (w : World) : Calls Tryz.prog 78 #[] w (Chars [41] w) := by
  go_enter Tryz.func78, Tryz.ntmps78
  go_wp2
  go_ret
  exact chars_alloc [41] 1 w 5
theorem chars80 (w : World) : Calls Tryz.prog 80 #[] w (Chars [44] w) := by
  go_enter Tryz.func80, Tryz.ntmps80
  go_wp2
  go_ret
  exact chars_alloc [44] 1 w 5
theorem chars97 (w : World) : Calls Tryz.prog 97 #[] w (Chars [47, 45, 46] w) := by
  go_enter Tryz.func97, Tryz.ntmps97
  go_wp2
  go_ret
  exact chars_alloc [47, 45, 46] 3 w 5

theorem info5 : (Tryz.prog.info? 5).map (fun i => (i.zero, i.size, i.bytes)) = some (some (.int .u8 0), 1, 1) := by kernel_rfl

theorem chars70 (w : World) : Calls Tryz.prog 70 #[] w (Chars delims w) := by
  obtain ⟨i0, hi, hz0, hz1, hz2⟩ := info_parts info5
  go_enter Tryz.func70, Tryz.ntmps70
  go_wp2_with fail
  refine (chars97 _).mono ?_
  rintro e w1 ⟨g, cap, rfl, hc, hg, hg2, hb⟩
  have hc0 := bytes_alloc w [58, 92] 5 (0, 0)
  have hc1 : ByteCells w1 w.heap.size 0 [58, 92] := hc0.below hb (by simp)
  have HC := Lib.hid hc
  have HC1 := Lib.hid hc1
  have HB := Lib.hid hb
  clear hc hc0 hc1 hb
  go_wp2_with (refine wpList_append_new _ rfl _ _ 23 rfl 5 i0 (.int .u8 0) 1 Tryz.underlying23 hi hz0 hz1 hz2 rfl (some ⟨w.heap.size, 0, none⟩) 2 2 (bvals [58, 92]) rfl (by intro h; cases h) rfl (by intro b hb; cases hb; exact bytes_add HC1.out) ⟨g, 0, none⟩ 3 cap (bvals [47, 45, 46]) rfl rfl (bytes_add HC.out) (bvals_one _) (by omega) (by simp [maxLen]) (by omega) ?_; intro g' cap' w2 h1 h2 h3 h4)
  go_ret
  refine ⟨g', cap', rfl, bytes_of h3, ?_, h2, ?_⟩
  · have := HB.out.size; simp at this; omega
  · exact ((Below.refl _ _).alloc (Nat.le_refl _) _).trans ((HB.out.mono (by simp)).trans ((below_grown h4).mono (by have := HB.out.size; simp at this; omega)))
end Go.Proofs.YtiebedcldbmlhaaGreatDoor
namespace Go.Proofs.YtiebedcldbmlhaaGreatDoor
open Go.RowKit
set_option linter.unusedVariables false

theorem chars68 (w : World) : Calls Tryz.prog 68 #[] w (Chars ends w) := by
  obtain ⟨i0, hi, hz0, hz1, hz2⟩ := info_parts info5
  go_enter Tryz.func68, Tryz.ntmps68
  go_wp2_with fail
  refine (chars70 _).mono ?_
  rintro e w1 ⟨g, cap, rfl, hc, hg, hg2, hb⟩
  have hc0 := bytes_alloc w [63] 5 (0, 0)
  have hc1 : ByteCells w1 w.heap.size 0 [63] := hc0.below hb (by simp)
  have HC := Lib.hid hc
  have HC1 := Lib.hid hc1
  have HB := Lib.hid hb
  clear hc hc0 hc1 hb
  go_wp2_with (refine wpList_append_new _ rfl _ _ 23 rfl 5 i0 (.int .u8 0) 1 Tryz.underlying23 hi hz0 hz1 hz2 rfl (some ⟨w.heap.size, 0, none⟩) 1 1 (bvals [63]) rfl (by intro h; cases h) rfl (by intro b hb; cases hb; exact bytes_add HC1.out) ⟨g, 0, none⟩ 5 cap (bvals delims) rfl rfl (bytes_add HC.out) (bvals_one _) (by omega) (by simp [maxLen]) (by omega) ?_; intro g' cap' w2 h1 h2 h3 h4)
  go_ret
  refine ⟨g', cap', rfl, bytes_of h3, ?_, h2, ?_⟩
  · have := HB.out.size; simp at this; omega
  · exact ((Below.refl _ _).alloc (Nat.le_refl _) _).trans ((HB.out.mono (by simp)).trans ((below_grown h4).mono (by have := HB.out.size; simp at this; omega)))

theorem in_yes {cs : Bs} {k : Nat} {c : UInt8} (hk : k < cs.length) (h : cs.getD k 0 = c) : cs.contains c = true := by
  rw [List.contains_iff_mem, ← h]
  simp [List.getD, hk]
theorem in_no {cs : Bs} {c : UInt8} (h : ∀ j, j < cs.length → cs.getD j 0 ≠ c) : cs.contains c = false := by
  rw [Bool.eq_false_iff]
  intro hc
  rw [List.contains_iff_mem] at hc
  obtain ⟨j, hj, e⟩ := List.getElem_of_mem hc
  exact h j hj (by simp [List.getD, hj, e])

theorem in_any (c : UInt8) (b off cap : Nat) (cs : Bs) (w : World) (hl : cs.length ≤ 1000) (hc : ByteCells w b off cs) :
    Calls Tryz.prog 69 #[.int .u8 (c.toNat : Int), .slice (some ⟨b, off, none⟩) cs.length cap] w fun e w' => e = .returned (.bool (cs.contains c)) ∧ w = w' := by
  have HC := Lib.hid hc
  clear hc
  have hc256 : (c.toNat : Int) < 256 := by have := c.toNat_lt; omega
  go_enter Tryz.func69, Tryz.ntmps69
  go_wp2
  go_loop [9] (fun i => ∃ k : Nat, k ≤ cs.length ∧ i = .int .i64 k ∧ (∀ j, j < k → cs.getD j 0 ≠ c)) (fun i => cs.length - (intOf i).toNat)
  case atStart => exact ⟨0, Nat.zero_le _, rfl, fun j h => absurd h (Nat.not_lt_zero _)⟩
  case round =>
    obtain ⟨k, hk, rfl, hall⟩ := hrel
    have HA := Lib.hid hall
    clear hall
    by_cases hlt : k < cs.length
    · have hck := HC.out k hlt
      obtain ⟨d, hd⟩ : ∃ d, d = cs.getD k 0 := ⟨_, rfl⟩
      rw [← hd] at hck
      have HD := Lib.hid hd
      clear hd
      cases he : d == c with
      | true =>
        have hq : ((d.toNat : Int) == (c.toNat : Int)) = true := by rw [u8_beq d c _ rfl]; exact he
        have HE := Lib.hid he
        clear he
        go_wp2
        go_ret
        exact ⟨ret_bool (by have := in_yes hlt (c := c) (by rw [← HD.out]; simpa using HE.out); simpa using this), rfl⟩
      | false =>
        have hq : ((d.toNat : Int) == (c.toNat : Int)) = false := by rw [u8_beq d c _ rfl]; exact he
        have HE := Lib.hid he
        clear he
        go_wp2
        go_round
        case rel => exact ⟨k + 1, by omega, by go_num, fun j hj => by
            rcases Nat.lt_or_ge j k with h | h
            · exact HA.out j h
            · obtain rfl : j = k := by omega
              rw [← HD.out]; simpa using HE.out⟩
        case measure => simp [intOf]; omega
    · obtain rfl : k = cs.length := by omega
      go_wp2
      go_ret
      exact ⟨ret_bool (by have := in_no HA.out; simpa using this), rfl⟩
end Go.Proofs.YtiebedcldbmlhaaGreatDoor
namespace Go.Proofs.YtiebedcldbmlhaaGreatDoor
open Go.RowKit
set_option linter.unusedVariables false

theorem lastIdx_lb (s : ByteArray) (c : UInt8) : ∀ k, k ≤ s.size → Lib.lastIdx s (c.toNat : Int) k = oi (lbGo s.data.toList c k)
  | 0, _ => rfl
  | k + 1, hk => by
    unfold Lib.lastIdx lbGo
    have hb := byte_at s k (by omega)
    have e : s.data[k]! = s[k]'(by omega) := by
      have hk' : k < s.data.size := by have : s.data.size = s.size := rfl; omega
      rw [getElem!_pos s.data k hk']; rfl
    rw [hb, e]
    by_cases h : s[k]'(by omega) = c
    · rw [if_pos (by rw [h]), if_pos (by rw [h])]; rfl
    · rw [if_neg (fun h' => h (UInt8.toNat_inj.1 (by omega))), if_neg (fun h' => h (Option.some.inj h'))]
      exact lastIdx_lb s c k (by omega)

theorem lb_any (s : ByteArray) (c : UInt8) (w : World) (hs : s.size ≤ 140737488351232) :
    Calls Tryz.prog 98 #[.string s, .int .u8 (c.toNat : Int)] w fun e w' => e = .returned (.int .i64 (oi (lb s.data.toList c))) ∧ w = w' :=
  (Tryz.strings_LastIndexByte s (c.toNat : Int) (by omega) w).mono fun e w' ⟨he, hw⟩ => ⟨by rw [he]; exact ret_int (by unfold Lib.lastIndexByte lb; rw [lastIdx_lb s c _ (Nat.le_refl _), size_data]), hw.symm⟩

set_option maxHeartbeats 1000000 in
theorem last_any (s : ByteArray) (b off cap : Nat) (c : UInt8) (w : World) (hs : s.size ≤ 140737488351232) (hc : ByteCells w b off [c]) :
    Calls Tryz.prog 72 #[.string s, .slice (some ⟨b, off, none⟩) 1 cap] w fun e w' => e = .returned (.int .i64 (oi (lb s.data.toList c))) ∧ w = w' := by
  have hck : w.cell? ⟨b, off, none⟩ = some (.int .u8 (c.toNat : Int)) := hc 0 (by simp)
  have yb := oi_ge (lb s.data.toList c)
  obtain ⟨y, hy⟩ : ∃ y, y = oi (lb s.data.toList c) := ⟨_, rfl⟩
  rw [← hy] at yb
  have HY := Lib.hid hy
  clear hy
  go_enter Tryz.func72, Tryz.ntmps72
  go_wp2
  refine wp_loop_rounds 2 ?_
  rw [rounds_succ]
  go_wp2_with fail
  refine (lb_any s c w hs).mono ?_
  rintro e w' ⟨rfl, rfl⟩
  rw [← HY.out]
  by_cases h1 : y = -1
  · subst h1
    go_wp2
    rw [rounds_succ]
    go_wp2
    go_ret
    exact ⟨ret_int HY.out, rfl⟩
  · have b1 : (y != -1) = true := by simpa [bne_iff_ne] using h1
    clear h1
    go_wp2
    all_goals
      rw [rounds_succ]
      go_wp2
      go_ret
      exact ⟨ret_int HY.out, rfl⟩

theorem conStep_take (s : Bs) (cs : Bs) (x y : Int) (k : Nat) (hk : k < cs.length) : (cs.take (k + 1)).foldl (conStep s x y) (-1) = conStep s x y ((cs.take k).foldl (conStep s x y) (-1)) (cs.getD k 0) := by
  have e : cs.getD k 0 = cs[k] := by simp [List.getD, hk]
  rw [List.take_succ_eq_append_getElem hk, List.foldl_append, e]; rfl

/-- One byte's step over numbers. -/
def cstp (x y nx q : Int) : Int := if q ≠ -1 ∧ (q < nx ∨ nx = -1) then (if (q > x ∧ q > y) ∨ (q < x ∧ q < y) then q else nx) else nx
theorem conStep_cstp (s : Bs) (x y nx : Int) (c : UInt8) : conStep s x y nx c = cstp x y nx (oi (fb s c)) := rfl
theorem cstp_a {x y nx q : Int} (h1 : q ≠ -1) (h2 : q < nx ∨ nx = -1) (h3 : (q > x ∧ q > y) ∨ (q < x ∧ q < y)) : cstp x y nx q = q := by unfold cstp; rw [if_pos ⟨h1, h2⟩, if_pos h3]
theorem cstp_b {x y nx q : Int} (h1 : q ≠ -1) (h2 : q < nx ∨ nx = -1) (h3 : ¬ ((q > x ∧ q > y) ∨ (q < x ∧ q < y))) : cstp x y nx q = nx := by unfold cstp; rw [if_pos ⟨h1, h2⟩, if_neg h3]
theorem cstp_c {x y nx q : Int} (h : ¬ (q ≠ -1 ∧ (q < nx ∨ nx = -1))) : cstp x y nx q = nx := by unfold cstp; rw [if_neg h]
theorem cstp_ge {x y nx q : Int} (h1 : -1 ≤ nx) (h2 : -1 ≤ q) : -1 ≤ cstp x y nx q := by unfold cstp; split <;> (try split) <;> omega

set_option maxHeartbeats 4000000 in
theorem nextCon_any (s : ByteArray) (b off cap : Nat) (cs : Bs) (w : World) (hs : s.size ≤ 140737488351232) (hl : cs.length ≤ 1000) (hc : ByteCells w b off cs) (hb : b < w.heap.size) :
    Calls Tryz.prog 67 #[.string s, .slice (some ⟨b, off, none⟩) cs.length cap] w fun e w' => e = .returned (.int .i64 (nextCon s.data.toList cs)) ∧ Below w.heap.size w w' := by
  obtain ⟨x, hx⟩ : ∃ x, x = oi (nne s.data.toList [60]) := ⟨_, rfl⟩
  obtain ⟨y, hy⟩ : ∃ y, y = oi (nne s.data.toList [62]) := ⟨_, rfl⟩
  have xb : -1 ≤ x := by rw [hx]; exact oi_ge _
  have yb : -1 ≤ y := by rw [hy]; exact oi_ge _
  have HX := Lib.hid hx
  have HY := Lib.hid hy
  clear hx hy
  have HR := Lib.hid (show nextCon s.data.toList cs = cs.foldl (conStep s.data.toList x y) (-1) by rw [HX.out, HY.out]; rfl)
  go_enter Tryz.func67, Tryz.ntmps67
  go_wp2_with fail
  refine (chars71 _).mono ?_
  rintro e w1 ⟨g1, cap1, rfl, hc1, _, _, hb1⟩
  go_wp2_with fail
  refine (nne_any s g1 0 cap1 [60] w1 hs (by decide) hc1).mono ?_
  rintro e w1' ⟨rfl, rfl⟩
  rw [← HX.out]
  clear hc1
  go_wp2_with fail
  refine (chars73 _).mono ?_
  rintro e w2 ⟨g2, cap2, rfl, hc2, _, _, hb2⟩
  go_wp2_with fail
  refine (nne_any s g2 0 cap2 [62] w2 hs (by decide) hc2).mono ?_
  rintro e w2' ⟨rfl, rfl⟩
  rw [← HY.out]
  have HB := Lib.hid (hb1.trans (hb2.mono hb1.size))
  have HC := Lib.hid (hc.below HB.out hb)
  clear hc2 hb1 hb2 hc
  go_wp2
  go_loop [7, 19] (fun nx i => ∃ k : Nat, k ≤ cs.length ∧ i = .int .i64 k ∧ ∃ v : Int, nx = .int .i64 v ∧ -1 ≤ v ∧ v = (cs.take k).foldl (conStep s.data.toList x y) (-1)) (fun _ i => cs.length - (intOf i).toNat)
  case atStart => exact ⟨0, Nat.zero_le _, rfl, -1, rfl, by omega, by simp⟩
  case round =>
    obtain ⟨k, hk, rfl, v, rfl, hv, hf⟩ := hrel
    have HF := Lib.hid hf
    clear hf
    by_cases hlt : k < cs.length
    · have hck := HC.out k hlt
      have hst := conStep_take s.data.toList cs x y k hlt
      rw [← HF.out] at hst
      obtain ⟨c, hcd⟩ : ∃ c, c = cs.getD k 0 := ⟨_, rfl⟩
      rw [← hcd] at hck hst
      obtain ⟨q, hq⟩ : ∃ q, q = oi (fb s.data.toList c) := ⟨_, rfl⟩
      have qb : -1 ≤ q := by rw [hq]; exact oi_ge _
      rw [conStep_cstp, ← hq] at hst
      have HQ := Lib.hid hq
      have HS := Lib.hid hst
      clear hq hst hcd
      go_wp2_with fail
      refine (index_any s c _).mono ?_
      rintro e w' ⟨rfl, rfl⟩
      rw [← HQ.out]
      clear hck
      by_cases h1 : q = -1
      · have HT := Lib.hid (HS.out.trans (cstp_c (fun h => h.1 h1)))
        subst h1
        go_wp2
        go_round
        case rel => exact ⟨k + 1, by omega, by go_num, v, rfl, hv, by rw [HT.out]⟩
        case measure => simp [intOf]; omega
      · have b1 : (q != -1) = true := by simpa [bne_iff_ne] using h1
        by_cases h2 : q < v ∨ v = -1
        · by_cases h3 : (q > x ∧ q > y) ∨ (q < x ∧ q < y)
          · have HT := Lib.hid (HS.out.trans (cstp_a h1 h2 h3))
            clear h1
            rcases h2 with h2 | h2
            · rcases h3 with ⟨h3, h4⟩ | ⟨h3, h4⟩
              all_goals
                go_wp2
                all_goals
                  go_round
                  case rel => exact ⟨k + 1, by omega, by go_num, q, rfl, qb, by rw [HT.out]⟩
                  case measure => simp [intOf]; omega
            · subst h2
              rcases h3 with ⟨h3, h4⟩ | ⟨h3, h4⟩
              all_goals
                go_wp2
                all_goals
                  go_round
                  case rel => exact ⟨k + 1, by omega, by go_num, q, rfl, qb, by rw [HT.out]⟩
                  case measure => simp [intOf]; omega
          · have HT := Lib.hid (HS.out.trans (cstp_b h1 h2 h3))
            clear h1
            have g1 : decide (x < q) = false ∨ decide (y < q) = false := by by_cases h : x < q <;> simp <;> omega
            have g2 : decide (q < x) = false ∨ decide (q < y) = false := by by_cases h : q < x <;> simp <;> omega
            clear h3
            rcases h2 with h2 | h2
            · rcases g1 with g1 | g1 <;> rcases g2 with g2 | g2
              all_goals
                simp only [decide_eq_false_iff_not] at g1 g2
                go_wp2
                all_goals
                  go_round
                  case rel => exact ⟨k + 1, by omega, by go_num, v, rfl, hv, by rw [HT.out]⟩
                  case measure => simp [intOf]; omega
            · subst h2
              rcases g1 with g1 | g1 <;> rcases g2 with g2 | g2
              all_goals
                simp only [decide_eq_false_iff_not] at g1 g2
                go_wp2
                all_goals
                  go_round
                  case rel => exact ⟨k + 1, by omega, by go_num, -1, rfl, hv, by rw [HT.out]⟩
                  case measure => simp [intOf]; omega
        · have HT := Lib.hid (HS.out.trans (cstp_c (fun h => h2 h.2)))
          have b2 : (v == -1) = false := by rw [beq_eq_false_iff_ne]; omega
          have b3 : ¬ q < v := by omega
          clear h1 h2
          go_wp2
          all_goals
            go_round
            case rel => exact ⟨k + 1, by omega, by go_num, v, rfl, hv, by rw [HT.out]⟩
            case measure => simp [intOf]; omega
    · obtain rfl : k = cs.length := by omega
      have e : v = nextCon s.data.toList cs := by rw [HR.out, HF.out]; simp
      have HE := Lib.hid e
      clear e
      go_wp2
      go_ret
      exact ⟨ret_int HE.out, HB.out⟩
end Go.Proofs.YtiebedcldbmlhaaGreatDoor
namespace Go.Proofs.YtiebedcldbmlhaaGreatDoor
open Go.RowKit
set_option linter.unusedVariables false

theorem nneGo_lt {l cs : Bs} : ∀ {k p q : Nat}, p < l.length → nneGo l cs k p = some q → q < l.length
  | 0, p, q, hp, h => by cases h; exact hp
  | k + 1, p, q, hp, h => by
    unfold nneGo at h
    split at h
    · split at h
      · cases h
      · split at h
        · cases h
        · rename_i r hr
          have := findIdx_lt hr
          rw [List.length_drop] at this
          exact nneGo_lt (by omega) h
    · cases h; exact hp
theorem nne_lt {l cs : Bs} {q : Nat} (h : nne l cs = some q) : q < l.length := by
  unfold nne at h
  split at h
  · cases h
  · rename_i p hp; exact nneGo_lt (findIdx_lt hp) h

set_option maxHeartbeats 1000000 in
theorem paramPos_any (s : ByteArray) (w : World) (hs : s.size ≤ 140737488351232) :
    Calls Tryz.prog 52 #[.string s] w fun e w' => e = .returned (.int .i64 (oi (paramPos s.data.toList))) ∧ Below w.heap.size w w' := by
  go_enter Tryz.func52, Tryz.ntmps52
  go_wp2_with fail
  refine (chars65 _).mono ?_
  rintro e w1 ⟨g1, cap1, rfl, hc1, _, _, hb1⟩
  go_wp2_with fail
  refine (nne_any s g1 0 cap1 starts w1 hs (by decide) hc1).mono ?_
  rintro e w1' ⟨rfl, rfl⟩
  have HB := Lib.hid hb1
  clear hc1 hb1
  cases h : nne s.data.toList starts with
  | none =>
    rw [oi_none]
    have H := Lib.hid h
    clear h
    go_wp2
    go_ret
    exact ⟨ret_int (by unfold paramPos; rw [H.out]; rfl), HB.out⟩
  | some i =>
    have hi : i < s.size := by have := nne_lt h; simpa using this
    have hb := byte_at s i hi
    have HI := Lib.hid hb
    clear hb
    have H := Lib.hid h
    clear h
    rw [oi_some]
    have hbn : ((i : Int) != -1) = true := by simp [bne_iff_ne]
    cases he : (s[i]'hi) == 42 with
    | true =>
      have hq : (((s[i]'hi).toNat : Int) == 42) = true := by rw [u8_beq _ 42 42 rfl]; exact he
      have hq2 : (((s[i]'hi).toNat : Int) != 42) = false := by rw [bne, hq]; rfl
      have HE := Lib.hid he
      clear he hq
      go_wp2
      go_ret
      refine ⟨ret_int ?_, HB.out⟩
      have e : s[i]'hi = 42 := by simpa using HE.out
      unfold paramPos
      rw [H.out]
      simp only
      rw [if_neg (by rw [HI.out, e]; simp)]
      rfl
    | false =>
      have hq : (((s[i]'hi).toNat : Int) == 42) = false := by rw [u8_beq _ 42 42 rfl]; exact he
      have hq2 : (((s[i]'hi).toNat : Int) != 42) = true := by rw [bne, hq]; rfl
      have HE := Lib.hid he
      clear he hq
      go_wp2_with fail
      have e1 : IntKind.i64.wrap ((i : Int) + 1) = (i : Int) + 1 := IntWalk.i64_in _ (by omega)
      have e2 : (0 : Int) ≤ (i : Int) + 1 := by omega
      have e3 : ((i : Int) + 1).toNat = i + 1 := by omega
      have e4 : (i : Int) + 1 ≤ (s.size : Int) := by omega
      have hex := Lib.hid (extract_from s (i + 1))
      go_region_with (first | (go_at_call 65; refine (chars65 _).mono ?_; rintro e w2 ⟨g2, cap2, rfl, hc2, _, _, hb2⟩) | (go_at_call 64; refine (nne_any _ g2 0 cap2 starts _ (by simp; omega) (by decide) (by assumption)).mono ?_; rintro e w2' ⟨rfl, rfl⟩; rw [hex.out]))
      clear e1 e2 e3 e4 hq2
      have HB2 := Lib.hid (HB.out.drew.trans (hb2.mono HB.out.size))
      clear hb2 hc2
      have hne : s[i]'hi ≠ 42 := by simpa using HE.out
      by_cases hz : nne (s.data.toList.drop (i + 1)) starts = some 0
      · have hlt := nne_lt hz
        have hlt2 : i + 1 < s.size := by simp at hlt; omega
        have hp : paramPos s.data.toList = some (i + 1) := by
          unfold paramPos
          rw [H.out]
          simp only
          rw [if_pos ⟨by rw [HI.out]; exact fun h => hne (Option.some.inj h), hz⟩]
        have HP := Lib.hid hp
        rw [hz, oi_some]
        clear hz hlt hp hne
        go_wp2
        refine wp_loop_rounds 1 ?_
        rw [rounds_succ]
        go_wp2
        go_ret
        exact ⟨ret_int (by rw [HP.out]; rfl), HB2.out⟩
      · have hp : paramPos s.data.toList = some i := by
          unfold paramPos
          rw [H.out]
          simp only
          rw [if_neg (fun h => hz h.2)]
        have HP := Lib.hid hp
        obtain ⟨z, hzz⟩ : ∃ z, z = oi (nne (s.data.toList.drop (i + 1)) starts) := ⟨_, rfl⟩
        rw [← hzz]
        have z0 : (z == 0) = false := by
          rw [beq_eq_false_iff_ne, hzz]
          intro h
          apply hz
          cases hN : nne (s.data.toList.drop (i + 1)) starts with
          | none => rw [hN] at h; simp [oi] at h
          | some n => rw [hN] at h; simp [oi] at h; rw [h]
        clear hz hp hne hzz
        go_wp2
        refine wp_loop_rounds 1 ?_
        rw [rounds_succ]
        go_wp2
        go_ret
        exact ⟨ret_int (by rw [HP.out]; rfl), HB2.out⟩
end Go.Proofs.YtiebedcldbmlhaaGreatDoor
namespace Go.Proofs.YtiebedcldbmlhaaGreatDoor
open Go.RowKit
set_option linter.unusedVariables false

theorem extract_range (s : ByteArray) (i j : Nat) : (s.extract i j).data.toList = (s.data.toList.drop i).take (j - i) := by
  simp [ByteArray.data_extract]
theorem bytes_ext {a b : ByteArray} : a = b ↔ a.data.toList = b.data.toList :=
  ⟨fun h => by rw [h], fun h => by rw [← bs_of a, ← bs_of b, h]⟩
theorem str_yes {a b : ByteArray} (h : (a.toList == b.toList) = true) : a = b := by
  rw [beq_iff_eq, Lib.toList_data, Lib.toList_data] at h
  exact bytes_ext.2 h
theorem str_no {a b : ByteArray} (h : (a.toList == b.toList) = false) : a ≠ b := by
  rintro rfl
  simp at h
theorem pre_iff (a b : Bs) : a.isPrefixOf b = true ↔ b.take a.length = a := by
  rw [List.isPrefixOf_iff_prefix, List.prefix_iff_eq_take]
  exact ⟨fun h => h.symm, fun h => h.symm⟩
theorem ext_pre (s t : ByteArray) (k : Nat) : s.extract k (k + t.size) = t ↔ t.data.toList.isPrefixOf (s.data.toList.drop k) = true := by
  rw [bytes_ext, extract_range, pre_iff, size_data]
  simp

theorem idxGo_short {sub s : Bs} {k i : Nat} (h : s.length < sub.length) : idxGo sub k s i = none := by
  cases k with
  | zero => rfl
  | succ k => unfold idxGo; rw [if_pos h]
theorem idxGo_hit {sub s : Bs} {k i : Nat} (h : ¬ s.length < sub.length) (hp : sub.isPrefixOf s = true) : idxGo sub (k + 1) s i = some i := by
  unfold idxGo; rw [if_neg h, if_pos hp]
theorem idxGo_miss {sub s : Bs} {k i : Nat} (h : ¬ s.length < sub.length) (hp : ¬ sub.isPrefixOf s = true) : idxGo sub (k + 1) s i = idxGo sub k (s.drop 1) (i + 1) := by
  conv => lhs; unfold idxGo
  rw [if_neg h, if_neg hp]

set_option maxHeartbeats 1000000 in
theorem idx_any (s t : ByteArray) (w : World) (hs : s.size ≤ 140737488351232) (ht : t.size ≤ 140737488351232) :
    Calls Tryz.prog 85 #[.string s, .string t] w fun e w' => e = .returned (.int .i64 (oi (idx s.data.toList t.data.toList))) ∧ w = w' := by
  go_enter Tryz.func85, Tryz.ntmps85
  go_wp2
  go_loop [5] (fun p => ∃ k : Nat, p = .int .i64 k ∧ k ≤ s.size + 1 ∧ idxGo t.data.toList (s.size + 1 - k) (s.data.toList.drop k) k = idx s.data.toList t.data.toList) (fun p => s.size + 1 - (intOf p).toNat)
  case atStart => exact ⟨0, rfl, by omega, by unfold idx; simp⟩
  case round =>
    obtain ⟨k, rfl, hk, hg⟩ := hrel
    have HG := Lib.hid hg
    clear hg
    by_cases hlt : k + t.size ≤ s.size
    · have hsh : ¬ (s.data.toList.drop k).length < t.data.toList.length := by rw [List.length_drop, size_data, size_data]; omega
      have e : s.size + 1 - k = (s.size + 1 - (k + 1)) + 1 := by omega
      have HE := Lib.hid e
      have HS := Lib.hid hsh
      clear e hsh
      have HP := Lib.hid (ext_pre s t k)
      go_wp2
      · have hb : ((s.extract k (k + t.size)).toList == t.toList) = true := by assumption
        go_ret
        refine ⟨ret_int ?_, rfl⟩
        rw [← HG.out, HE.out, idxGo_hit HS.out (HP.out.1 (str_yes hb))]
        rfl
      · have hb : ((s.extract k (k + t.size)).toList == t.toList) = false := by assumption
        go_round
        case rel =>
          refine ⟨k + 1, by go_num, by omega, ?_⟩
          rw [← HG.out, HE.out, idxGo_miss HS.out (fun h => str_no hb (HP.out.2 h)), List.drop_drop]
        case measure => simp [intOf]; omega
    · have hlt' : s.size < k + t.size := by omega
      have hn : idxGo t.data.toList (s.size + 1 - k) (s.data.toList.drop k) k = none := by
        by_cases hz : k = s.size + 1
        · rw [hz, Nat.sub_self]; rfl
        · exact idxGo_short (by rw [List.length_drop, size_data, size_data]; omega)
      have HN := Lib.hid hn
      clear hn
      go_wp2
      go_ret
      exact ⟨ret_int (by rw [← HG.out, HN.out]; rfl), rfl⟩

theorem lastGo_hit {sub s : Bs} {k : Nat} (hp : sub.isPrefixOf (s.drop k) = true) : lastGo s sub (k + 1) = some k := by
  unfold lastGo; rw [if_pos hp]
theorem lastGo_miss {sub s : Bs} {k : Nat} (hp : ¬ sub.isPrefixOf (s.drop k) = true) : lastGo s sub (k + 1) = lastGo s sub k := by
  conv => lhs; unfold lastGo
  rw [if_neg hp]

set_option maxHeartbeats 1000000 in
theorem lastIdx_any (s t : ByteArray) (w : World) (hs : s.size ≤ 140737488351232) (ht : t.size ≤ 140737488351232) :
    Calls Tryz.prog 100 #[.string s, .string t] w fun e w' => e = .returned (.int .i64 (oi (lastIdx s.data.toList t.data.toList))) ∧ w = w' := by
  go_enter Tryz.func100, Tryz.ntmps100
  go_wp2
  go_loop [5] (fun p => (∃ k : Nat, p = .int .i64 k ∧ k + t.size ≤ s.size ∧ lastGo s.data.toList t.data.toList (k + 1) = lastIdx s.data.toList t.data.toList) ∨ (∃ q : Int, p = .int .i64 q ∧ -140737488351232 ≤ q ∧ q < 0 ∧ lastIdx s.data.toList t.data.toList = none)) (fun p => (intOf p + 1).toNat)
  case atStart =>
    by_cases h : s.size < t.size
    · refine .inr ⟨_, rfl, ?_, ?_, by unfold lastIdx; rw [if_pos (by rw [size_data, size_data]; omega)]⟩
      · omega
      · omega
    · exact .inl ⟨s.size - t.size, by go_num, by omega, by unfold lastIdx; rw [if_neg (by rw [size_data, size_data]; omega), size_data, size_data]⟩
  case round =>
    rcases hrel with ⟨k, rfl, hk, hg⟩ | ⟨q, rfl, hq0, hq, hN⟩
    · have HG := Lib.hid hg
      clear hg
      have HP := Lib.hid (ext_pre s t k)
      go_wp2
      · have hb : ((s.extract k (k + t.size)).toList == t.toList) = true := by assumption
        go_ret
        refine ⟨ret_int ?_, rfl⟩
        rw [← HG.out, lastGo_hit (HP.out.1 (str_yes hb))]
        rfl
      · have hb : ((s.extract k (k + t.size)).toList == t.toList) = false := by assumption
        have hm := lastGo_miss (fun h => str_no hb (HP.out.2 h))
        go_round
        case rel =>
          cases k with
          | zero => exact .inr ⟨-1, by go_num, by omega, by omega, by rw [← HG.out, hm]; rfl⟩
          | succ k => exact .inl ⟨k, by go_num, by omega, by rw [← HG.out, hm]⟩
        case measure => simp [intOf]
    · have HN := Lib.hid hN
      clear hN
      go_wp2
      go_ret
      exact ⟨ret_int (by rw [HN.out]; rfl), rfl⟩
end Go.Proofs.YtiebedcldbmlhaaGreatDoor
namespace Go.Proofs.YtiebedcldbmlhaaGreatDoor
open Go.RowKit
set_option linter.unusedVariables false

theorem countGo_short {sub s : Bs} {k : Nat} (h : s.length < sub.length) : countGo sub k s = 0 := by
  cases k with
  | zero => rfl
  | succ k => unfold countGo; rw [if_pos h]
theorem countGo_hit {sub s : Bs} {k : Nat} (h : ¬ s.length < sub.length) (hp : sub.isPrefixOf s = true) : countGo sub (k + 1) s = countGo sub k (s.drop sub.length) + 1 := by
  conv => lhs; unfold countGo
  rw [if_neg h, if_pos hp]
theorem countGo_miss {sub s : Bs} {k : Nat} (h : ¬ s.length < sub.length) (hp : ¬ sub.isPrefixOf s = true) : countGo sub (k + 1) s = countGo sub k (s.drop 1) := by
  conv => lhs; unfold countGo
  rw [if_neg h, if_neg hp]

theorem iter_below (w : World) (s : ByteArray) (p : Nat) : Below w.heap.size w (w.iter s p) := (Below.refl _ _).alloc (Nat.le_refl _) _
theorem iterPos_of' {w : World} {s : ByteArray} {p : Nat} : (w.iter s p).iterPos w.heap.size = p := World.iterPos_iter w s p

theorem Utf8_end (s : ByteArray) (pos : Nat) (h : pos < s.size) : pos + (Utf8.decode s pos).2 ≤ s.size := by
  have hb : ∀ k, (s.get! (pos + k)).toNat < 256 := fun k => (s.get! (pos + k)).toNat_lt
  simp only [Utf8.decode]
  repeat' split
  all_goals simp_all
  all_goals omega

/-- No byte that a rune of more than one byte takes is below 128. -/
theorem Utf8_high (s : ByteArray) (pos : Nat) (h : pos < s.size) (ha : 128 ≤ (s[pos]'h).toNat) (j : Nat) (hj : j < (Utf8.decode s pos).2) : 128 ≤ (s.get! (pos + j)).toNat := by
  rw [← get_at s pos h] at ha
  revert hj
  simp only [Utf8.decode]
  have hn : ¬ (s.get! (pos + 0)).toNat < 128 := by omega
  rw [if_neg hn]
  intro hj
  have h01 : j = 0 → 128 ≤ (s.get! (pos + j)).toNat := by rintro rfl; exact ha
  split at hj
  · rename_i hc
    simp at hc
    have : j < 2 := by split at hj <;> simp at hj <;> omega
    rcases (by omega : j = 0 ∨ j = 1) with rfl | rfl
    · exact ha
    · omega
  · split at hj
    · rename_i hc
      simp at hc
      have : j < 3 := by split at hj <;> simp at hj <;> omega
      rcases (by omega : j = 0 ∨ j = 1 ∨ j = 2) with rfl | rfl | rfl
      · exact ha
      · omega
      · omega
    · split at hj
      · rename_i hc
        simp at hc
        have : j < 4 := by split at hj <;> simp at hj <;> omega
        rcases (by omega : j = 0 ∨ j = 1 ∨ j = 2 ∨ j = 3) with rfl | rfl | rfl | rfl
        · exact ha
        · omega
        · omega
        · omega
      · simp at hj; exact h01 hj

set_option maxHeartbeats 1000000 in
theorem count_any (s t : ByteArray) (w : World) (hs : s.size ≤ 140737488351232) (ht : t.size ≤ 140737488351232) :
    Calls Tryz.prog 82 #[.string s, .string t] w fun e w' => e = .returned (.int .i64 (countS s.data.toList t.data.toList)) ∧ Below w.heap.size w w' := by
  go_enter Tryz.func82, Tryz.ntmps82
  by_cases h0 : t.size = 0
  · have hR : countS s.data.toList t.data.toList = Lib.runeCountFrom s s.size 0 + 1 := by
      unfold countS
      rw [if_pos (List.length_eq_zero_iff.1 (by rw [size_data]; exact h0)), Lib.runeCountL_eq]; rfl
    have HR := Lib.hid hR
    clear hR
    go_wp2
    go_loopw [5] (fun n wr => ∃ (pos fuel m : Nat), wr = w.iter s pos ∧ n = .int .i64 m ∧ m ≤ pos ∧ pos ≤ s.size ∧ s.size ≤ pos + fuel ∧ m + Lib.runeCountFrom s fuel pos = Lib.runeCountFrom s s.size 0) (fun _ wr => s.size - wr.iterPos w.heap.size)
    case atStart => exact ⟨0, s.size, 0, rfl, rfl, by omega, by omega, by omega, by omega⟩
    case round =>
      obtain ⟨pos, fuel, m, rfl, rfl, hm, hps, hf, hc⟩ := hrel
      have HC := Lib.hid hc
      clear hc
      by_cases hp : pos < s.size
      · have hnx : ∀ ty, (Instr.next (.pointer (some ⟨w.heap.size, 0, none⟩)) true ty).run Tryz.prog (w.iter s pos) = _ := fun ty => run_next_any w s pos ty hp
        have hwd := Lib.width_pos s pos
        have hwe := Utf8_end s pos hp
        have hd1 := decode_le s pos
        obtain ⟨f, rfl⟩ : ∃ f, fuel = f + 1 := ⟨fuel - 1, by omega⟩
        go_wp2
        go_roundw
        case rel => exact ⟨pos + (Utf8.decode s pos).2, f, m + 1, rfl, by go_num, by omega, by omega, by omega, by rw [← HC.out]; simp only [Lib.runeCountFrom, if_pos hp]; omega⟩
        case measure =>
          rw [iterPos_of', iterPos_of']
          omega
      · have hnx : ∀ ty, (Instr.next (.pointer (some ⟨w.heap.size, 0, none⟩)) true ty).run Tryz.prog (w.iter s pos) = _ := fun ty => run_next_end w s pos ty hp
        have hz := Lib.hid (Lib.runeCountFrom_end s fuel pos hp)
        go_wp2
        go_ret
        exact ⟨ret_int (by rw [HR.out, ← HC.out, hz.out]; omega), iter_below w s pos⟩
  · have h1 : 1 ≤ t.size := by omega
    have hR : countS s.data.toList t.data.toList = countGo t.data.toList (s.size + 1) s.data.toList := by
      unfold countS
      rw [if_neg (fun h => h0 (by rw [← size_data, h]; rfl)), size_data]
    have HR := Lib.hid hR
    clear hR
    go_wp2
    go_loop [5, 6] (fun n i => ∃ (k fuel m : Nat), i = .int .i64 k ∧ n = .int .i64 m ∧ m ≤ k ∧ k ≤ s.size ∧ s.size + 1 ≤ k + fuel ∧ m + countGo t.data.toList fuel (s.data.toList.drop k) = countGo t.data.toList (s.size + 1) s.data.toList) (fun _ i => s.size - (intOf i).toNat)
    case atStart => exact ⟨0, s.size + 1, 0, rfl, rfl, by omega, by omega, by omega, by simp⟩
    case round =>
      obtain ⟨k, fuel, m, rfl, rfl, hm, hks, hf, hc⟩ := hrel
      have HC := Lib.hid hc
      clear hc
      by_cases hlt : k + t.size ≤ s.size
      · have hsh : ¬ (s.data.toList.drop k).length < t.data.toList.length := by rw [List.length_drop, size_data, size_data]; omega
        obtain ⟨fuel, rfl⟩ : ∃ j, fuel = j + 1 := ⟨fuel - 1, by omega⟩
        have HS := Lib.hid hsh
        clear hsh
        have HP := Lib.hid (ext_pre s t k)
        go_wp2
        · have hb : ((s.extract k (k + t.size)).toList == t.toList) = true := by assumption
          go_round
          case rel =>
            refine ⟨k + t.size, fuel, m + 1, by go_num, by go_num, by omega, by omega, by omega, ?_⟩
            rw [← HC.out, countGo_hit HS.out (HP.out.1 (str_yes hb)), List.drop_drop, size_data]
            omega
          case measure => simp [intOf]; omega
        · have hb : ((s.extract k (k + t.size)).toList == t.toList) = false := by assumption
          go_round
          case rel =>
            refine ⟨k + 1, fuel, m, by go_num, by go_num, by omega, by omega, by omega, ?_⟩
            rw [← HC.out, countGo_miss HS.out (fun h => str_no hb (HP.out.2 h)), List.drop_drop]
          case measure => simp [intOf]; omega
      · have hn : countGo t.data.toList fuel (s.data.toList.drop k) = 0 := countGo_short (by rw [List.length_drop, size_data, size_data]; omega)
        have HN := Lib.hid hn
        clear hn
        go_wp2
        go_ret
        exact ⟨ret_int (by rw [HR.out, ← HC.out, HN.out]; omega), Below.refl _ _⟩
end Go.Proofs.YtiebedcldbmlhaaGreatDoor
