/-
  Segments of the empty pattern: no parts, no names; with it, Segments of every pattern without constraints that does not panic. Conditions: a pattern of at most a million bytes; the table that Itoa reads.
-/
import Derived.Test.YtiebedcldbmlhaaGreatDoorAU
namespace Go.Proofs.YtiebedcldbmlhaaGreatDoor
open Go.RowKit
set_option linter.unusedVariables false

set_option maxHeartbeats 1000000 in
set_option maxRecDepth 100000 in
theorem meta_empty (w : World) : Calls Tryz.prog 55 #[.slice none 0 0] w fun e w' => e = .returned (.slice none 0 0) ∧ w = w' := by
  go_enter Tryz.func55, Tryz.ntmps55
  go_wp2_with fail
  go_loopw [5] (fun i wx => i = .int .i64 (-1) ∧ w = wx) (fun _ _ => 0)
  case atStart => exact ⟨rfl, rfl⟩
  case round =>
    obtain ⟨rfl, rfl⟩ := hrel
    go_wp2_with fail
    go_loopw [6] (fun i wx => i = .int .i64 0 ∧ w = wx) (fun _ _ => 0)
    case atStart => exact ⟨rfl, rfl⟩
    case round =>
      obtain ⟨rfl, rfl⟩ := hrel
      go_wp2_with fail
      go_ret
      exact ⟨rfl, rfl⟩
set_option maxHeartbeats 1000000 in
set_option maxRecDepth 100000 in
theorem parse_empty (w : World) : Calls Tryz.prog 43 #[.string ⟨#[]⟩] w fun e w' => e = .returned (.agg #[.slice none 0 0, .slice none 0 0, .int .i64 0, .int .i64 0]) ∧ Below w.heap.size w w' := by
  obtain ⟨W2, hW2⟩ : ∃ W2, W2 = ((w.alloc (Obj.cells #[Value.slice none 0 0, Value.slice none 0 0, Value.int IntKind.i64 0, Value.int IntKind.i64 0] 79)).alloc (Obj.cells #[Value.slice none 0 0, Value.slice none 0 0, Value.int IntKind.i64 0, Value.int IntKind.i64 0] 79)) := ⟨_, rfl⟩
  have s1 : (w.alloc (Obj.cells #[Value.slice none 0 0, Value.slice none 0 0, Value.int IntKind.i64 0, Value.int IntKind.i64 0] 79)).heap.size = w.heap.size + 1 := by simp
  have hb : Below w.heap.size w W2 := by rw [hW2]; exact ((Below.refl _ _).alloc (Nat.le_refl _) _).alloc (by simp) _
  have h0 : W2.heap[w.heap.size]? = some (.cells #[Value.slice none 0 0, Value.slice none 0 0, Value.int IntKind.i64 0, Value.int IntKind.i64 0] 79 (0, 0)) := by rw [hW2, Below.heap_alloc _ _ _ (by rw [s1]; omega), heap_alloc_new]
  have h1 : W2.heap[w.heap.size + 1]? = some (.cells #[Value.slice none 0 0, Value.slice none 0 0, Value.int IntKind.i64 0, Value.int IntKind.i64 0] 79 (0, 0)) := by rw [hW2, ← s1, heap_alloc_new]
  have a0 := obj_cell (i := 0) h0 rfl
  have a1 := obj_cell (i := 1) h0 rfl
  have a2 := obj_cell (i := 2) h0 rfl
  have a3 := obj_cell (i := 3) h0 rfl
  have b0 := obj_cell (i := 0) h1 rfl
  have b1 := obj_cell (i := 1) h1 rfl
  have b2 := obj_cell (i := 2) h1 rfl
  have b3 := obj_cell (i := 3) h1 rfl
  have f0 := obj_free (i := 0) h0
  have f1 := obj_free (i := 1) h0
  have f2 := obj_free (i := 2) h0
  have f3 := obj_free (i := 3) h0
  have g0 := obj_free (i := 0) h1
  have HB := Lib.hid hb
  have H0 := Lib.hid h0
  have HW2 := Lib.hid hW2
  have HM := Lib.hid (meta_empty W2)
  clear hb h0 h1 hW2 s1
  go_enter Tryz.func43, Tryz.ntmps43
  go_wp2_with fail
  rw [← HW2.out]
  go_loopw [0, 5] (fun a b wx => a = .string ⟨#[]⟩ ∧ W2 = wx) (fun _ _ _ => 0)
  case atStart => exact ⟨rfl, rfl⟩
  case round =>
    obtain ⟨rfl, rfl⟩ := hrel
    go_wp2_with fail
    refine HM.out.mono ?_
    rintro e w' ⟨rfl, rfl⟩
    have hne : ¬ w.heap.size + 1 = w.heap.size := by omega
    go_wp2_with fail
    have hW5 : ((((((W2.setCell ⟨w.heap.size + 1, 0, none⟩ (.slice none 0 0)).setCell ⟨w.heap.size, 0, none⟩ (.slice none 0 0)).setCell ⟨w.heap.size, 1, none⟩ (.slice none 0 0)).setCell ⟨w.heap.size, 2, none⟩ (.int .i64 0)).setCell ⟨w.heap.size, 3, none⟩ (.int .i64 0))).heap[w.heap.size]? = some (.cells #[.slice none 0 0, .slice none 0 0, .int .i64 0, .int .i64 0] 79 (0, 0)) :=
      obj_set (i := 3) _ (obj_set (i := 2) _ (obj_set (i := 1) _ (obj_set (i := 0) _ ((Below.heap_setCell _ ⟨w.heap.size + 1, 0, none⟩ _ _ (by show w.heap.size ≠ w.heap.size + 1; omega)).trans H0.out))))
    refine bodyPost_ret (v := .agg #[.slice none 0 0, .slice none 0 0, .int .i64 0, .int .i64 0]) (results_cell_row rfl _ _ w.heap.size 79 _ (0, 0) _ (by rfl) hW5 Tryz.underlying79 rfl (by kernel_rfl)) rfl ?_
    exact ⟨rfl, five_below (P := w.heap.size + 1) (R := w.heap.size) _ _ _ _ _ HB.out (by omega) (Nat.le_refl _)⟩

set_option maxHeartbeats 1000000 in
set_option maxRecDepth 100000 in
theorem zzparse_empty (w : World) : Calls Tryz.prog 36 #[.string ⟨#[]⟩] w fun e w' => e = .returned (.tuple #[.slice none 0 0, .slice none 0 0]) ∧ Below w.heap.size w w' := by
  have HCALL := Lib.hid (parse_empty w)
  go_enter Tryz.func36, Tryz.ntmps36
  go_wp2_with fail
  refine HCALL.out.mono ?_
  rintro e w1 ⟨rfl, hb1⟩
  obtain ⟨W2, hW2⟩ : ∃ W2, W2 = w1.alloc (Obj.cells #[Value.slice none 0 0, Value.slice none 0 0, Value.int IntKind.i64 0, Value.int IntKind.i64 0] 79) := ⟨_, rfl⟩
  have hb2 : Below w1.heap.size w1 W2 := by rw [hW2]; exact (Below.refl _ _).alloc (Nat.le_refl _) _
  have h2 : W2.heap[w1.heap.size]? = some (.cells #[Value.slice none 0 0, Value.slice none 0 0, Value.int IntKind.i64 0, Value.int IntKind.i64 0] 79 (0, 0)) := by rw [hW2, heap_alloc_new]
  have c0 := obj_cell (i := 0) h2 rfl
  have c1 := obj_cell (i := 1) h2 rfl
  have HB2 := Lib.hid (hb1.trans (hb2.mono hb1.size))
  have HW2 := Lib.hid hW2
  clear hb1 hb2 h2 hW2 HCALL
  go_wp2_with fail
  rw [← HW2.out]
  go_loopw [5, 16] (fun v i wx => v = .slice none 0 0 ∧ i = .int .i64 0 ∧ W2 = wx) (fun _ _ _ => 0)
  case atStart => exact ⟨rfl, rfl, rfl⟩
  case round =>
    obtain ⟨rfl, rfl, rfl⟩ := hrel
    go_upto_region 14 with fail
    go_quiet (fail)
    go_wp2_with fail
    go_ret2
    exact ⟨rfl, HB2.out.os, HB2.out.tape, HB2.out.output, HB2.out.size, HB2.out.block⟩

set_option maxHeartbeats 4000000 in
set_option maxRecDepth 100000 in
theorem segments_empty (w : World) : Calls Tryz.prog 27 #[.string ⟨#[]⟩] w fun e w' => e = .returned (.tuple #[.slice none 0 0, .slice none 0 0, .bool true]) ∧ Below w.heap.size w w' := by
  have hmf : ∀ (fn : Fn) (first cap : Array Value) (w : World), (Instr.makeFunc fn first cap).run Tryz.prog w = .ok (.func fn first cap) w := fun _ _ _ _ => rfl
  obtain ⟨W1, hW1⟩ : ∃ W1, W1 = (((w.alloc (Obj.cells #[Value.slice none 0 0] 44)).alloc (Obj.cells #[Value.slice none 0 0] 22)).alloc (Obj.cells #[Value.bool false] 4)) := ⟨_, rfl⟩
  have hbW : Below w.heap.size w W1 := by rw [hW1]; exact (((Below.refl _ _).alloc (Nat.le_refl _) _).alloc (by simp) _).alloc (by simp; omega) _
  have hsW : W1.heap.size = w.heap.size + 1 + 1 + 1 := by rw [hW1]; simp
  have s1 : (w.alloc (Obj.cells #[Value.slice none 0 0] 44)).heap.size = w.heap.size + 1 := by simp
  have s2 : ((w.alloc (Obj.cells #[Value.slice none 0 0] 44)).alloc (Obj.cells #[Value.slice none 0 0] 22)).heap.size = w.heap.size + 1 + 1 := by simp
  have k0 : W1.heap[w.heap.size]? = some (.cells #[.slice none 0 0] 44 (0, 0)) := by
    rw [hW1, Below.heap_alloc _ _ _ (by rw [s2]; omega), Below.heap_alloc _ _ _ (by rw [s1]; omega), heap_alloc_new]
  have k1 : W1.heap[w.heap.size + 1]? = some (.cells #[.slice none 0 0] 22 (0, 0)) := by
    rw [hW1, Below.heap_alloc _ _ _ (by rw [s2]; omega), ← s1, heap_alloc_new]
  have k2 : W1.heap[w.heap.size + 1 + 1]? = some (.cells #[.bool false] 4 (0, 0)) := by
    rw [hW1, ← s2, heap_alloc_new]
  clear s1 s2
  have HCALL := Lib.hid (zzparse_empty W1)
  have HBW := Lib.hid hbW
  have HSW := Lib.hid hsW
  have HW1 := Lib.hid hW1
  clear hbW hsW hW1
  go_enter_defers Tryz.func27, Tryz.ntmps27
  go_wp2_with fail
  rw [← HW1.out]
  refine HCALL.out.mono ?_
  rintro e w2 ⟨rfl, hb2⟩
  have q0 := (hb2.block _ (by have := HSW.out; omega)).trans k0
  have q1 := (hb2.block _ (by have := HSW.out; omega)).trans k1
  have q2 := (hb2.block _ (by have := HSW.out; omega)).trans k2
  have f1 := obj_free (i := 0) q1
  have c1 := obj_cell (i := 0) q1 rfl
  have HB2 := Lib.hid hb2
  have Q0 := Lib.hid q0
  have Q1 := Lib.hid q1
  have Q2 := Lib.hid q2
  clear hb2 q0 q1 q2 k0 k1 k2 HCALL
  go_wp2_with fail
  obtain ⟨W3, hW3⟩ : ∃ W3, W3 = w2.setCell ⟨w.heap.size + 1, 0, none⟩ (.slice none 0 0) := ⟨_, rfl⟩
  rw [← hW3]
  have q0 : W3.heap[w.heap.size]? = some (.cells #[.slice none 0 0] 44 (0, 0)) := by rw [hW3, Below.heap_setCell _ ⟨w.heap.size + 1, 0, none⟩ _ _ (by simp)]; exact Q0.out
  have q1 : W3.heap[w.heap.size + 1]? = some (.cells #[.slice none 0 0] 22 (0, 0)) := by rw [hW3]; exact obj_set (i := 0) _ Q1.out
  have q2 : W3.heap[w.heap.size + 1 + 1]? = some (.cells #[.bool false] 4 (0, 0)) := by rw [hW3, Below.heap_setCell _ ⟨w.heap.size + 1, 0, none⟩ _ _ (by simp)]; exact Q2.out
  have hb3 : Below w.heap.size w W3 := by rw [hW3]; exact (HBW.out.trans (HB2.out.mono HBW.out.size)).setCell (p := ⟨w.heap.size + 1, 0, none⟩) (by show w.heap.size ≤ w.heap.size + 1; omega) _
  have c0 := obj_cell (i := 0) q0 rfl
  have c1' := obj_cell (i := 0) q1 rfl
  have c2 := obj_cell (i := 0) q2 rfl
  have f0 := obj_free (i := 0) q0
  have f1' := obj_free (i := 0) q1
  have f2 := obj_free (i := 0) q2
  have HB3 := Lib.hid hb3
  have T0 := Lib.hid q0
  have T1 := Lib.hid q1
  have T2 := Lib.hid q2
  clear hW3 q0 q1 q2 hb3 HB2 HBW Q0 Q1 Q2 f1 c1 HW1
  go_loopw [19] (fun i wx => i = .int .i64 0 ∧ W3 = wx) (fun _ _ => 0)
  case atStart => exact ⟨rfl, rfl⟩
  case round =>
    obtain ⟨rfl, rfl⟩ := hrel
    go_wp2_with fail
    go_region
    rw [show (((W3.setCell ⟨w.heap.size, 0, none⟩ (.slice none 0 0)).setCell ⟨w.heap.size + 1, 0, none⟩ (.slice none 0 0)).setCell ⟨w.heap.size + 1 + 1, 0, none⟩ (.bool true)).drew = stored3 W3 w.heap.size (w.heap.size + 1) (w.heap.size + 1 + 1) (.slice none 0 0) (.slice none 0 0) (.bool true) from rfl]
    obtain ⟨X, hX⟩ : ∃ X, X = stored3 W3 w.heap.size (w.heap.size + 1) (w.heap.size + 1 + 1) (.slice none 0 0) (.slice none 0 0) (.bool true) := ⟨_, rfl⟩
    rw [← hX]
    have HX := Lib.hid hX
    clear hX c0 c1' c2 f0 f1' f2
    go_wp2_with fail
    refine leaves_cons (f := 35) (args := #[.pointer (some ⟨w.heap.size, 0, none⟩), .pointer (some ⟨w.heap.size + 1, 0, none⟩), .pointer (some ⟨w.heap.size + 1 + 1, 0, none⟩)]) (by simp) (by simp [go_sem]) ?_
    refine (catch_idle27 _ _ _ _).mono ?_
    rintro e u' X ⟨rfl, rfl, rfl⟩
    have n1 : w.heap.size ≠ w.heap.size + 1 := by omega
    have n2 : w.heap.size ≠ w.heap.size + 1 + 1 := by omega
    have n3 : w.heap.size + 1 ≠ w.heap.size + 1 + 1 := by omega
    have hx0 : X.heap[w.heap.size]? = some (.cells #[.slice none 0 0] 44 (0, 0)) := by rw [HX.out]; exact stored3_a n1 n2 T0.out
    have hx1 : X.heap[w.heap.size + 1]? = some (.cells #[.slice none 0 0] 22 (0, 0)) := by rw [HX.out]; exact stored3_b n1 n3 T1.out
    have hx2 : X.heap[w.heap.size + 1 + 1]? = some (.cells #[.bool true] 4 (0, 0)) := by rw [HX.out]; exact stored3_c n2 n3 T2.out
    have x0 := obj_cell (i := 0) hx0 rfl
    have x1 := obj_cell (i := 0) hx1 rfl
    have x2 := obj_cell (i := 0) hx2 rfl
    have hbX : Below w.heap.size w X := by
      rw [HX.out]
      exact stored3_below HB3.out (Nat.le_refl _) (by omega) (by omega)
    have HBX := Lib.hid hbX
    clear hbX hx0 hx1 hx2 n1 n2 n3
    obtain ⟨R, hRd⟩ : ∃ R : Ending → World → Prop, R = fun (e : Ending) (w' : World) => e = .returned (.tuple #[.slice none 0 0, .slice none 0 0, .bool true]) ∧ Below w.heap.size w w' := ⟨_, rfl⟩
    have hR : R (.returned (.tuple #[.slice none 0 0, .slice none 0 0, .bool true])) X := by rw [hRd]; exact ⟨rfl, HBX.out⟩
    rw [← hRd]
    clear hRd HBX HX HB3 T0 T1 T2
    have HR := Lib.hid hR
    clear hR
    show Leaves Tryz.prog Tryz.f27 _ R [] .returning X
    refine ⟨_, ?_, HR.out⟩
    rw [results_cell3 (p := 2) (u := 3) (q := 4) (a := 44) (b := 22) (c := 4) Tryz.results27]
    simp only [Array.getD, List.size_toArray, List.length_cons, List.length_nil]
    simp [asAddr, Result.andThen, go_sem, x0, x1, x2]

/-- Segments, of the empty pattern, too. -/
theorem segments_all (s : ByteArray) (w : World) (hE : EnvZ w) (hs : s.size ≤ 1000000) (h60 : ∀ x ∈ s.data.toList, x ≠ 60) (M : List Seg) (N : List Bs) (hM : parse s.data.toList = some (M, N)) :
    Calls Tryz.prog 27 #[.string s] w fun e w' => ∃ va cap pv, e = .returned (.tuple #[.slice va M.length cap, pv, .bool true]) ∧ w'.ownsRow w.heap.size 49 11 (.slice va M.length cap) M.length (zrow M) ∧ Below w.heap.size w w' := by
  by_cases h0 : 0 < s.size
  · refine (segments_any s w hE hs h0 h60 M N hM).mono ?_
    rintro e w' ⟨v, pv, rfl, hv, hp, hb⟩
    obtain ⟨va, cap, rfl⟩ := own_form hv
    exact ⟨va, cap, pv, rfl, hv, hb⟩
  · have hl : s.data.toList = [] := List.length_eq_zero_iff.1 (by rw [size_data]; omega)
    have hs0 : s = ⟨#[]⟩ := by rw [bytes_ext, hl]
    rw [hl] at hM
    have he : parse [] = some ([], []) := rfl
    rw [he] at hM
    cases hM
    rw [hs0]
    refine (segments_empty w).mono ?_
    rintro e w' ⟨rfl, hb⟩
    exact ⟨none, 0, _, rfl, World.ownsRow_nil _ _ _ _, hb⟩
end Go.Proofs.YtiebedcldbmlhaaGreatDoor
