/-
  ZzMatch and Values, of any pattern without constraints that does not panic and any path. Conditions: a pattern of at most a million bytes; the table that Itoa reads.
-/
import Derived.Test.YtiebedcldbmlhaaGreatDoorY
import Derived.Test.YtiebedcldbmlhaaGreatDoorW
import Derived.Test.YtiebedcldbmlhaaGreatDoorP
import Derived.Defers
import Derived.Recover
import Derived.Laws.Pointers
namespace Go.Proofs.YtiebedcldbmlhaaGreatDoor
open Go.RowKit
set_option linter.unusedVariables false

/-- The table that Itoa reads lies below. -/
def EnvZ (w : World) : Prop := ∃ B, B ≤ w.heap.size ∧ Lib.TabBelow Tryz.prog B w "internal/strconv.uint64pow10" .u64 Lib.pow10Tab
theorem EnvZ.below {w w' : World} (h : EnvZ w) (hb : Below w.heap.size w w') : EnvZ w' := by
  obtain ⟨B, h1, h2⟩ := h
  exact ⟨B, Nat.le_trans h1 hb.size, h2.on (hb.mono h1)⟩

/-- What a match gives: the values, or nothing. -/
def Matched (w : World) (res : Option (List Bs)) (w' : World) (v : Value) (is : Bool) : Prop :=
  match res with
  | some vs => is = true ∧ w'.ownsRow w.heap.size 9 1 v vs.length (svals vs)
  | none => is = false ∧ v = .slice none 0 0

set_option maxHeartbeats 4000000 in
set_option maxRecDepth 100000 in
theorem zzmatch_any (s p : ByteArray) (part : Bool) (w : World) (hE : EnvZ w) (hs : s.size ≤ 1000000) (h0 : 0 < s.size) (hp : p.size ≤ 1000000000) (h60 : ∀ x ∈ s.data.toList, x ≠ 60) (M : List Seg) (N : List Bs) (hM : parse s.data.toList = some (M, N)) :
    Calls Tryz.prog 33 #[.string s, .string p, .bool part] w fun e w' => ∃ v is, e = .returned (.tuple #[v, .bool is]) ∧ Below w.heap.size w w' ∧ Matched w (mres M part p.data.toList) w' v is := by
  obtain ⟨B, hB, htab⟩ := hE
  obtain ⟨hgood, hnames, h30, hML⟩ := parse_good hM h60 (by rw [size_data]; exact hs)
  have hcall := parse_any s B w hs h0 h60 M N hM hB htab
  have HCALL := Lib.hid hcall
  have HNM := Lib.hid (show N.length = (M.filter (·.isParam)).length by rw [hnames]; simp)
  have HGD := Lib.hid hgood
  clear hcall htab hnames hM h60 hgood
  go_enter Tryz.func33, Tryz.ntmps33
  go_wp2_with fail
  refine HCALL.out.mono ?_
  rintro e w1 ⟨gs, cvs, r, cap, pv, st, pl, rfl, hin, hnod, hemp, hrow, hrl, hown, hb1⟩
  obtain ⟨ao, ncap, rfl⟩ := own_form hown
  have HIN := Lib.hid hin
  have HEMP := Lib.hid hemp
  have HROW := Lib.hid hrow
  have HB1 := Lib.hid hb1
  clear hin hemp hrow hown hb1 HCALL
  go_wp2_with fail
  obtain ⟨W2, hW2⟩ : ∃ W2, W2 = ((w1.alloc (Obj.cells #[Value.slice (some { block := r, off := 0 }) M.length cap, Value.slice ao N.length ncap, Value.int IntKind.i64 st, Value.int IntKind.i64 pl] 79)).alloc (Obj.cells (Array.replicate 30 (Value.string ⟨#[]⟩)) 81)) := ⟨_, rfl⟩
  have hW2' : W2 = _ := hW2
  have hb2 : Below w1.heap.size w1 W2 := by rw [hW2]; exact ((Below.refl _ _).alloc (Nat.le_refl _) _).alloc (by simp) _
  have hsz2 : W2.heap.size = w1.heap.size + 1 + 1 := by rw [hW2]; simp
  have hQ : W2.cell? ⟨w1.heap.size, 0, none⟩ = some (.slice (some ⟨r, 0, none⟩) M.length cap) := by rw [hW2]; simp [cell_alloc, objCell]
  have hQ1 : W2.cell? ⟨w1.heap.size, 1, none⟩ = some (.slice ao N.length ncap) := by rw [hW2]; simp [cell_alloc, objCell]
  have hAA : W2.heap[w1.heap.size + 1]? = some (.cells (Array.replicate 30 (Value.string ⟨#[]⟩)) 81 (0, 0)) := by
    rw [hW2]
    show (Array.push _ _)[_]? = _
    rw [Array.getElem?_push, if_pos (by simp)]
  have hgs : ∀ g ∈ gs, g < w1.heap.size := fun g hg => HIN.out.lt hg
  have hcall := match_any p part w1.heap.size r cap (w1.heap.size + 1) M gs cvs W2 hp hML hQ (fun i g h => (hb2.cell (p := ⟨r, i, none⟩) hrl).trans (HROW.out i g h)) (HIN.out.below hb2) HEMP.out HGD.out (by rw [← HNM.out]; exact h30)
    ⟨Touch.refl _ _, _, hAA, by simp, fun i v h => by simp at h⟩ (by omega) (fun hm => by have := hgs _ hm; omega)
  have HC2 := Lib.hid hcall
  have HB2 := Lib.hid (HB1.out.trans (hb2.mono HB1.out.size))
  have HSZ := Lib.hid hsz2
  obtain ⟨res, hres⟩ : ∃ res, res = mres M part p.data.toList := ⟨_, rfl⟩
  have HRES := Lib.hid hres
  rw [← hres] at HC2
  clear hcall hAA hb2 hsz2 hgs hres hW2'
  rw [show (#[Value.string { data := #[] }, Value.string { data := #[] }, Value.string { data := #[] }, Value.string { data := #[] }, Value.string { data := #[] }, Value.string { data := #[] }, Value.string { data := #[] }, Value.string { data := #[] }, Value.string { data := #[] }, Value.string { data := #[] }, Value.string { data := #[] }, Value.string { data := #[] }, Value.string { data := #[] }, Value.string { data := #[] }, Value.string { data := #[] }, Value.string { data := #[] }, Value.string { data := #[] }, Value.string { data := #[] }, Value.string { data := #[] }, Value.string { data := #[] }, Value.string { data := #[] }, Value.string { data := #[] }, Value.string { data := #[] }, Value.string { data := #[] }, Value.string { data := #[] }, Value.string { data := #[] }, Value.string { data := #[] }, Value.string { data := #[] }, Value.string { data := #[] }, Value.string { data := #[] }] : Array Value) = Array.replicate 30 (Value.string ⟨#[]⟩) from rfl, ← hW2]
  clear hW2
  refine HC2.out.mono ?_
  rintro e w3 ⟨rfl, ht, ha⟩
  have hb3 : Below w.heap.size w w3 := by
    have h1 := HB1.out.size
    have h2 := HSZ.out
    exact HB2.out.trans (touch_to_below ht (fun g hg => by simp at hg; omega) (by omega))
  cases hr : res with
  | none =>
    have HN := Lib.hid (HRES.out.symm.trans hr)
    rw [show (none : Option (List Bs)).isSome = false from rfl]
    go_wp2_with fail
    go_ret2
    refine ⟨_, _, rfl, hb3, ?_⟩
    rw [HN.out]
    exact ⟨rfl, rfl⟩
  | some vs =>
    rw [show (some vs : Option (List Bs)).isSome = true from rfl]
    have HN := Lib.hid (HRES.out.symm.trans hr)
    obtain ⟨ht4, cur, hcur, hcs, hcv⟩ := ha vs hr
    have hvl : vs.length = N.length := by
      have h1 := match_count (HRES.out.symm.trans hr)
      rw [HNM.out]; simpa using h1
    have hq3 : w3.cell? ⟨w1.heap.size, 1, none⟩ = some (.slice ao N.length ncap) := touch_cell ht4 (by simp) hQ1
    have hq4 : ∀ o, (w3.alloc o).cell? ⟨w1.heap.size, 1, none⟩ = some (.slice ao N.length ncap) := fun o => by rw [cell_alloc, if_neg (by have := cell_lt hq3; simp at this; omega)]; exact hq3
    obtain ⟨i9, hi9, hz90, hz91, hz92⟩ := info_parts info9
    have HCV := Lib.hid hcv
    have HCUR := Lib.hid hcur
    have HVL := Lib.hid hvl
    have HB3 := Lib.hid hb3
    have e1 : (N.length : Int) ≤ 30 := by omega
    have hszz : w.heap.size ≤ w3.heap.size := hb3.size
    clear hcv hcur hvl hb3 ht ht4 ha hr HC2
    have hown0 : (w3.alloc (.cells #[] 9)).ownsRow w.heap.size 9 1 (.slice (some ⟨w3.heap.size, 0, none⟩) 0 0) 0 [] :=
      ⟨rfl, .inr ⟨w3.heap.size, 0, #[], rfl, hszz, heap_alloc_new _ _, Nat.le_refl _, Nat.zero_le _, rfl, rfl⟩⟩
    have HOWN0 := Lib.hid hown0
    have hnews : ∀ (j : Nat) (u : Value), (svals vs)[j]? = some u → (w3.alloc (.cells #[] 9)).cell? ((⟨w1.heap.size + 1, 0, none⟩ : Addr).add j) = some u := fun j u hu => by
      unfold svals at hu
      rw [List.getElem?_map] at hu
      obtain ⟨x, hx, rfl⟩ := Option.map_eq_some_iff.1 hu
      rw [add_cell, Nat.zero_add, cell_alloc, if_neg (by have := lt_of_obj HCUR.out; omega)]
      exact obj_cell HCUR.out (HCV.out j x hx)
    have HNEWS := Lib.hid hnews
    clear hown0 hnews
    go_wp2_with (at_builtin; refine wpList_append_own _ rfl (.tmp 17) (.tmp 21) 22 rfl w.heap.size 9 i9 (.string ⟨#[]⟩) 1 16 Tryz.underlying22 hi9 hz90 hz91 hz92 rfl (by decide) (.slice (some ⟨w3.heap.size, 0, none⟩) 0 0) 0 [] (by rfl) HOWN0.out ⟨w1.heap.size + 1, 0, none⟩ N.length 30 (svals vs) (by rfl) (by rw [← HVL.out]; simp [svals]) HNEWS.out (svals_one _) (by simp [maxLen]; omega) (by omega) (by simp; omega) ?_; intro v' w4 hown4 hgrow4 hnil4)
    go_ret2
    refine ⟨v', true, rfl, ?_, ?_⟩
    · exact (HB3.out.alloc hszz (.cells #[] 9)).grown hgrow4 (by simp; omega) (fun k hk => by have : w3.heap.size = k := Option.some.inj hk; omega)
    · rw [HN.out]
      refine ⟨rfl, ?_⟩
      rw [HVL.out]
      rw [Nat.zero_add, List.nil_append] at hown4
      exact hown4

theorem results_cell3 {fn : Func} {p u q : Tmp} {a b c : TypeId} (h : fn.results = #[.cell p a, .cell u b, .cell q c]) (tmps : Array Value) (P : Program) (w : World) :
    (results fn tmps).run P w =
      ((asAddr (tmps.getD p undef)).run P w).andThen fun a1 w1 => ((loadVar a a1).run P w1).andThen fun v1 w2 => ((asAddr (tmps.getD u undef)).run P w2).andThen fun a2 w3 => ((loadVar b a2).run P w3).andThen fun v2 w4 =>
        ((asAddr (tmps.getD q undef)).run P w4).andThen fun a3 w5 => ((loadVar c a3).run P w5).andThen fun v3 w6 => .ok (.tuple #[v1, v2, v3]) w6 := by
  simp only [results, h]
  simp [Sem.run_bind, Result.andThen]

theorem drew_heap (w : World) : w.drew.heap = w.heap := rfl
/-- The stores of Values: twice the values and the answer, then the mark that nothing panicked. -/
def stored (w2 : World) (a b c : Nat) (x y z : Value) : World := (((((w2.setCell ⟨a, 0, none⟩ x).setCell ⟨b, 0, none⟩ y).setCell ⟨a, 0, none⟩ x).setCell ⟨b, 0, none⟩ y).setCell ⟨c, 0, none⟩ z).drew
theorem stored_a {w2 : World} {a b c : Nat} {x y z o : Value} {t : TypeId} (h1 : a ≠ b) (h2 : a ≠ c) (h3 : b ≠ c) (q : w2.heap[a]? = some (.cells #[o] t (0, 0))) : (stored w2 a b c x y z).heap[a]? = some (.cells #[x] t (0, 0)) := by
  have k1 : (w2.setCell ⟨a, 0, none⟩ x).heap[a]? = some (.cells #[x] t (0, 0)) := obj_set (i := 0) x q
  have k2 : ((w2.setCell ⟨a, 0, none⟩ x).setCell ⟨b, 0, none⟩ y).heap[a]? = some (.cells #[x] t (0, 0)) := (Below.heap_setCell _ ⟨b, 0, none⟩ y a h1).trans k1
  have k3 : (((w2.setCell ⟨a, 0, none⟩ x).setCell ⟨b, 0, none⟩ y).setCell ⟨a, 0, none⟩ x).heap[a]? = some (.cells #[x] t (0, 0)) := obj_set (i := 0) x k2
  have k4 := (Below.heap_setCell (((w2.setCell ⟨a, 0, none⟩ x).setCell ⟨b, 0, none⟩ y).setCell ⟨a, 0, none⟩ x) ⟨b, 0, none⟩ y a h1).trans k3
  unfold stored
  rw [drew_heap, Below.heap_setCell _ ⟨c, 0, none⟩ z a h2]
  exact k4
theorem stored_b {w2 : World} {a b c : Nat} {x y z o : Value} {t : TypeId} (h1 : a ≠ b) (h2 : a ≠ c) (h3 : b ≠ c) (q : w2.heap[b]? = some (.cells #[o] t (0, 0))) : (stored w2 a b c x y z).heap[b]? = some (.cells #[y] t (0, 0)) := by
  have k1 := (Below.heap_setCell w2 ⟨a, 0, none⟩ x b (Ne.symm h1)).trans q
  have k2 : ((w2.setCell ⟨a, 0, none⟩ x).setCell ⟨b, 0, none⟩ y).heap[b]? = some (.cells #[y] t (0, 0)) := obj_set (i := 0) y k1
  have k3 := (Below.heap_setCell ((w2.setCell ⟨a, 0, none⟩ x).setCell ⟨b, 0, none⟩ y) ⟨a, 0, none⟩ x b (Ne.symm h1)).trans k2
  have k4 : ((((w2.setCell ⟨a, 0, none⟩ x).setCell ⟨b, 0, none⟩ y).setCell ⟨a, 0, none⟩ x).setCell ⟨b, 0, none⟩ y).heap[b]? = some (.cells #[y] t (0, 0)) := obj_set (i := 0) y k3
  unfold stored
  rw [drew_heap, Below.heap_setCell _ ⟨c, 0, none⟩ z b h3]
  exact k4
theorem stored_keep {w2 : World} {a b c : Nat} {x y z : Value} (k : Nat) (h1 : k ≠ a) (h2 : k ≠ b) (h3 : k ≠ c) : (stored w2 a b c x y z).heap[k]? = w2.heap[k]? := by
  have k1 := Below.heap_setCell w2 ⟨a, 0, none⟩ x k h1
  have k2 := (Below.heap_setCell (w2.setCell ⟨a, 0, none⟩ x) ⟨b, 0, none⟩ y k h2).trans k1
  have k3 := (Below.heap_setCell ((w2.setCell ⟨a, 0, none⟩ x).setCell ⟨b, 0, none⟩ y) ⟨a, 0, none⟩ x k h1).trans k2
  have k4 := (Below.heap_setCell (((w2.setCell ⟨a, 0, none⟩ x).setCell ⟨b, 0, none⟩ y).setCell ⟨a, 0, none⟩ x) ⟨b, 0, none⟩ y k h2).trans k3
  unfold stored
  rw [drew_heap, Below.heap_setCell _ ⟨c, 0, none⟩ z k h3]
  exact k4
theorem stored_c {w2 : World} {a b c : Nat} {x y z o : Value} {t : TypeId} (h1 : a ≠ b) (h2 : a ≠ c) (h3 : b ≠ c) (q : w2.heap[c]? = some (.cells #[o] t (0, 0))) : (stored w2 a b c x y z).heap[c]? = some (.cells #[z] t (0, 0)) := by
  have k1 := (Below.heap_setCell w2 ⟨a, 0, none⟩ x c (Ne.symm h2)).trans q
  have k2 := (Below.heap_setCell (w2.setCell ⟨a, 0, none⟩ x) ⟨b, 0, none⟩ y c (Ne.symm h3)).trans k1
  have k3 := (Below.heap_setCell ((w2.setCell ⟨a, 0, none⟩ x).setCell ⟨b, 0, none⟩ y) ⟨a, 0, none⟩ x c (Ne.symm h2)).trans k2
  have k4 := (Below.heap_setCell (((w2.setCell ⟨a, 0, none⟩ x).setCell ⟨b, 0, none⟩ y).setCell ⟨a, 0, none⟩ x) ⟨b, 0, none⟩ y c (Ne.symm h3)).trans k3
  unfold stored
  rw [drew_heap]
  exact obj_set (i := 0) z k4
theorem stored_below {w w2 : World} {B a b c : Nat} {x y z : Value} (h : Below B w w2) (h1 : B ≤ a) (h2 : B ≤ b) (h3 : B ≤ c) : Below B w (stored w2 a b c x y z) :=
  (((((h.setCell (p := ⟨a, 0, none⟩) h1 x).setCell (p := ⟨b, 0, none⟩) h2 y).setCell (p := ⟨a, 0, none⟩) h1 x).setCell (p := ⟨b, 0, none⟩) h2 y).setCell (p := ⟨c, 0, none⟩) h3 z).drew

/-- The deferred closure of Values, where nothing panicked. -/
theorem catch_idle (a b c : Addr) (w : World) :
    CallsD Tryz.prog 32 #[.pointer (some a), .pointer (some b), .pointer (some c)] .returning w fun e u' w' => e = .returned (.tuple #[]) ∧ u' = .returning ∧ w' = w := by
  refine callsD_of_wpS Tryz.func32 rfl fun c₀ cs hu => ?_
  apply wpS_seq
  apply wpS_region
  simp [wpOpsS, go_sem, recoverD, hu, Tryz.ntmps32, Exit.thenS]
  refine wpS_cond (t := false) (by simp [Act.eval, Array.replicate]) ?_
  simp only [Bool.false_eq_true, if_false]
  refine wpS_of_wp (wp_skip ?_)
  cases c₀
  simp_all [bodyPostS, results, Tryz.results32]

set_option maxHeartbeats 4000000 in
set_option maxRecDepth 100000 in
theorem values_any (s p : ByteArray) (part : Bool) (w : World) (hE : EnvZ w) (hs : s.size ≤ 1000000) (h0 : 0 < s.size) (hp : p.size ≤ 1000000000) (h60 : ∀ x ∈ s.data.toList, x ≠ 60) (M : List Seg) (N : List Bs) (hM : parse s.data.toList = some (M, N)) :
    Calls Tryz.prog 18 #[.string s, .string p, .bool part] w fun e w' => ∃ v is, e = .returned (.tuple #[v, .bool is, .bool true]) ∧ Below w.heap.size w w' ∧ Matched w (mres M part p.data.toList) w' v is := by
  have hmf : ∀ (fn : Fn) (first cap : Array Value) (w : World), (Instr.makeFunc fn first cap).run Tryz.prog w = .ok (.func fn first cap) w := fun _ _ _ _ => rfl
  obtain ⟨W1, hW1⟩ : ∃ W1, W1 = (((w.alloc (Obj.cells #[Value.slice none 0 0] 22)).alloc (Obj.cells #[Value.bool false] 4)).alloc (Obj.cells #[Value.bool false] 4)) := ⟨_, rfl⟩
  have hbW : Below w.heap.size w W1 := by rw [hW1]; exact (((Below.refl _ _).alloc (Nat.le_refl _) _).alloc (by simp) _).alloc (by simp; omega) _
  have hsW : W1.heap.size = w.heap.size + 1 + 1 + 1 := by rw [hW1]; simp
  have s1 : (w.alloc (Obj.cells #[Value.slice none 0 0] 22)).heap.size = w.heap.size + 1 := by simp
  have s2 : ((w.alloc (Obj.cells #[Value.slice none 0 0] 22)).alloc (Obj.cells #[Value.bool false] 4)).heap.size = w.heap.size + 1 + 1 := by simp
  have k0 : W1.heap[w.heap.size]? = some (.cells #[.slice none 0 0] 22 (0, 0)) := by
    rw [hW1, Below.heap_alloc _ _ _ (by rw [s2]; omega), Below.heap_alloc _ _ _ (by rw [s1]; omega), heap_alloc_new]
  have k1 : W1.heap[w.heap.size + 1]? = some (.cells #[.bool false] 4 (0, 0)) := by
    rw [hW1, Below.heap_alloc _ _ _ (by rw [s2]; omega), ← s1, heap_alloc_new]
  have k2 : W1.heap[w.heap.size + 1 + 1]? = some (.cells #[.bool false] 4 (0, 0)) := by
    rw [hW1, ← s2, heap_alloc_new]
  clear s1 s2
  have hcall := zzmatch_any s p part W1 (hE.below hbW) hs h0 hp h60 M N hM
  have HCALL := Lib.hid hcall
  have HBW := Lib.hid hbW
  have HSW := Lib.hid hsW
  have HW1 := Lib.hid hW1
  clear hcall hbW hsW hW1 hM h60 hE
  go_enter_defers Tryz.func18, Tryz.ntmps18
  go_wp2_with fail
  rw [← HW1.out]
  refine HCALL.out.mono ?_
  rintro e w2 ⟨v, is, rfl, hb2, hm⟩
  have hv : ∃ ao n cap, v = .slice ao n cap := by
    unfold Matched at hm
    split at hm
    · obtain ⟨ao, cap, h⟩ := own_form hm.2
      exact ⟨ao, _, cap, h⟩
    · exact ⟨none, 0, 0, hm.2⟩
  obtain ⟨ao, n, cap, rfl⟩ := hv
  have q0 := (hb2.block _ (by have := HSW.out; omega)).trans k0
  have q1 := (hb2.block _ (by have := HSW.out; omega)).trans k1
  have q2 := (hb2.block _ (by have := HSW.out; omega)).trans k2
  have c0 := obj_cell (i := 0) q0 rfl
  have c1 := obj_cell (i := 0) q1 rfl
  have c2 := obj_cell (i := 0) q2 rfl
  have f0 := obj_free (i := 0) q0
  have f1 := obj_free (i := 0) q1
  have f2 := obj_free (i := 0) q2
  have HB2 := Lib.hid hb2
  have HM := Lib.hid hm
  have Q0 := Lib.hid q0
  have Q1 := Lib.hid q1
  have Q2 := Lib.hid q2
  clear hb2 hm q0 q1 q2 k0 k1 k2 HCALL
  go_wp2_with fail
  go_region
  rw [show (((((w2.setCell ⟨w.heap.size, 0, none⟩ (.slice ao n cap)).setCell ⟨w.heap.size + 1, 0, none⟩ (.bool is)).setCell ⟨w.heap.size, 0, none⟩ (.slice ao n cap)).setCell ⟨w.heap.size + 1, 0, none⟩ (.bool is)).setCell ⟨w.heap.size + 1 + 1, 0, none⟩ (.bool true)).drew = stored w2 w.heap.size (w.heap.size + 1) (w.heap.size + 1 + 1) (.slice ao n cap) (.bool is) (.bool true) from rfl]
  obtain ⟨X, hX⟩ : ∃ X, X = stored w2 w.heap.size (w.heap.size + 1) (w.heap.size + 1 + 1) (.slice ao n cap) (.bool is) (.bool true) := ⟨_, rfl⟩
  rw [← hX]
  have HX := Lib.hid hX
  clear hX
  go_wp2_with fail
  refine leaves_cons (f := 32) (args := #[.pointer (some ⟨w.heap.size, 0, none⟩), .pointer (some ⟨w.heap.size + 1, 0, none⟩), .pointer (some ⟨w.heap.size + 1 + 1, 0, none⟩)]) (by simp) (by simp [go_sem]) ?_
  refine (catch_idle _ _ _ _).mono ?_
  rintro e u' X ⟨rfl, rfl, rfl⟩
  have n1 : w.heap.size ≠ w.heap.size + 1 := by omega
  have n2 : w.heap.size ≠ w.heap.size + 1 + 1 := by omega
  have n3 : w.heap.size + 1 ≠ w.heap.size + 1 + 1 := by omega
  have hx0 : X.heap[w.heap.size]? = some (.cells #[.slice ao n cap] 22 (0, 0)) := by rw [HX.out]; exact stored_a n1 n2 n3 Q0.out
  have hx1 : X.heap[w.heap.size + 1]? = some (.cells #[.bool is] 4 (0, 0)) := by rw [HX.out]; exact stored_b n1 n2 n3 Q1.out
  have hx2 : X.heap[w.heap.size + 1 + 1]? = some (.cells #[.bool true] 4 (0, 0)) := by rw [HX.out]; exact stored_c n1 n2 n3 Q2.out
  have x0 := obj_cell (i := 0) hx0 rfl
  have x1 := obj_cell (i := 0) hx1 rfl
  have x2 := obj_cell (i := 0) hx2 rfl
  have hkeep : ∀ k, w.heap.size + 1 + 1 < k → X.heap[k]? = w2.heap[k]? := fun k hk => by
    rw [HX.out]
    exact stored_keep k (by omega) (by omega) (by omega)
  have hbX : Below w.heap.size w X := by
    rw [HX.out]
    exact stored_below (HBW.out.trans (HB2.out.mono HBW.out.size)) (Nat.le_refl _) (by omega) (by omega)
  have hmX : Matched w (mres M part p.data.toList) X (.slice ao n cap) is := by
    have h1 := HM.out
    unfold Matched at h1 ⊢
    split at h1
    · exact ⟨h1.1, own_base (own_keep h1.2 (fun k hk => hkeep k (by have := (h1.2.lt k hk).1; have := HSW.out; omega))) (by have := HSW.out; omega)⟩
    · exact h1
  have HMX := Lib.hid hmX
  have HBX := Lib.hid hbX
  clear hkeep hbX hmX hx0 hx1 hx2 n1 n2 n3
  obtain ⟨R, hRd⟩ : ∃ R : Ending → World → Prop, R = fun (e : Ending) (w' : World) => ∃ v is, e = .returned (.tuple #[v, .bool is, .bool true]) ∧ Below w.heap.size w w' ∧ Matched w (mres M part p.data.toList) w' v is := ⟨_, rfl⟩
  have hR : R (.returned (.tuple #[.slice ao n cap, .bool is, .bool true])) X := by rw [hRd]; exact ⟨_, _, rfl, HBX.out, HMX.out⟩
  rw [← hRd]
  clear hRd HBX HMX HM HX Q0 Q1 Q2 HB2 HBW HSW HW1
  have HR := Lib.hid hR
  clear hR
  show Leaves Tryz.prog Tryz.f18 _ R [] .returning X
  refine ⟨_, ?_, HR.out⟩
  rw [results_cell3 (p := 6) (u := 7) (q := 8) (a := 22) (b := 4) (c := 4) Tryz.results18]
  simp only [Array.getD, List.size_toArray, List.length_cons, List.length_nil]
  simp [asAddr, Result.andThen, go_sem, x0, x1, x2]
end Go.Proofs.YtiebedcldbmlhaaGreatDoor
