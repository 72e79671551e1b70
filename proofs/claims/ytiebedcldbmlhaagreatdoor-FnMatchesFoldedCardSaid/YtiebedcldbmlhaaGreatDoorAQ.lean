/-
  The thin function Matches where neither letters' sizes nor a slash at the end count. Conditions: a pattern of at most a million bytes; the table that Itoa reads.
-/
import Derived.Test.YtiebedcldbmlhaaGreatDoorAP
namespace Go.Proofs.YtiebedcldbmlhaaGreatDoor
open Go.RowKit
set_option linter.unusedVariables false

set_option maxHeartbeats 4000000 in
set_option maxRecDepth 100000 in
theorem match_loose (p0 s0 p s : ByteArray) (w : World) (hE : EnvZ w) (hs0' : s0.size ≤ 1000000) (hp0' : p0.size ≤ 1000000000) (hp0 : 0 < p0.size) (x0 : UInt8) (t0 : Bs) (hsd0 : s0.data.toList = 47 :: x0 :: t0) (hpl : bs (lowL p0.data.toList) = p) (hsl : bs (trimRight (lowL s0.data.toList) 47) = s) (x : UInt8) (t : Bs) (hsd : s.data.toList = 47 :: x :: t) (hx : x ≠ 42) (h60 : ∀ y ∈ s.data.toList, y ≠ 60) (M : List Seg) (N : List Bs) (hM : parse s.data.toList = some (M, N)) (hM0 : 0 < M.length) :
    Calls Tryz.prog 30 #[.string p0, .string s0, .bool false, .bool false] w fun e w' => e = .returned (.tuple #[.bool (routeB M N s.data.toList p.data.toList), .bool true]) ∧ Below w.heap.size w w' := by
  have hmf : ∀ (fn : Fn) (first cap : Array Value) (w : World), (Instr.makeFunc fn first cap).run Tryz.prog w = .ok (.func fn first cap) w := fun _ _ _ _ => rfl
  obtain ⟨W1, hW1⟩ : ∃ W1, W1 = (((w.alloc (Obj.cells #[Value.bool false] 4)).alloc (Obj.cells #[Value.bool false] 4)).alloc (Obj.cells #[Value.bool false, Value.bool false] 76)) := ⟨_, rfl⟩
  have s1 : (w.alloc (Obj.cells #[Value.bool false] 4)).heap.size = w.heap.size + 1 := by simp
  have s2 : ((w.alloc (Obj.cells #[Value.bool false] 4)).alloc (Obj.cells #[Value.bool false] 4)).heap.size = w.heap.size + 1 + 1 := by simp
  have hbW : Below w.heap.size w W1 := by rw [hW1]; exact (((Below.refl _ _).alloc (Nat.le_refl _) _).alloc (by simp) _).alloc (by simp; omega) _
  have hsW : W1.heap.size = w.heap.size + 1 + 1 + 1 := by rw [hW1]; simp
  have k0 : W1.heap[w.heap.size]? = some (.cells #[.bool false] 4 (0, 0)) := by
    rw [hW1, Below.heap_alloc _ _ _ (by rw [s2]; omega), Below.heap_alloc _ _ _ (by rw [s1]; omega), heap_alloc_new]
  have k1 : W1.heap[w.heap.size + 1]? = some (.cells #[.bool false] 4 (0, 0)) := by
    rw [hW1, Below.heap_alloc _ _ _ (by rw [s2]; omega), ← s1, heap_alloc_new]
  have k2 : W1.heap[w.heap.size + 1 + 1]? = some (.cells #[.bool false, .bool false] 76 (0, 0)) := by
    rw [hW1, ← s2, heap_alloc_new]
  clear s1 s2
  have hcall := route_loose p0 s0 p s (w.heap.size + 1 + 1) 1 W1 (hE.below hbW) hs0' hp0' hp0 x0 t0 hsd0 hpl hsl x t hsd hx h60 M N hM hM0 (obj_cell (i := 0) k2 rfl) (obj_cell (i := 1) k2 rfl)
  obtain ⟨rb, hrb⟩ : ∃ rb, rb = routeB M N s.data.toList p.data.toList := ⟨_, rfl⟩
  rw [← hrb] at hcall ⊢
  have HCALL := Lib.hid hcall
  have HBW := Lib.hid hbW
  have HSW := Lib.hid hsW
  have HW1 := Lib.hid hW1
  clear hcall hbW hsW hW1 hM h60 hE hsd hsd0 hpl hsl hx hM0 hrb k2
  go_enter_defers Tryz.func30, Tryz.ntmps30
  go_wp2_with fail
  rw [← HW1.out]
  refine HCALL.out.mono ?_
  rintro e w2 ⟨rfl, hb2⟩
  have q0 := (hb2.block _ (by have := HSW.out; omega)).trans k0
  have q1 := (hb2.block _ (by have := HSW.out; omega)).trans k1
  have c0 := obj_cell (i := 0) q0 rfl
  have c1 := obj_cell (i := 0) q1 rfl
  have f0 := obj_free (i := 0) q0
  have f1 := obj_free (i := 0) q1
  have HB2 := Lib.hid hb2
  have Q0 := Lib.hid q0
  have Q1 := Lib.hid q1
  clear hb2 q0 q1 k0 k1 HCALL
  go_wp2_with fail
  obtain ⟨X, hX⟩ : ∃ X, X = ((w2.setCell ⟨w.heap.size, 0, none⟩ (.bool rb)).setCell ⟨w.heap.size + 1, 0, none⟩ (.bool true)) := ⟨_, rfl⟩
  rw [← hX]
  have HX := Lib.hid hX
  clear hX
  refine leaves_cons (f := 41) (args := #[.pointer (some ⟨w.heap.size, 0, none⟩), .pointer (some ⟨w.heap.size + 1, 0, none⟩)]) (by simp) (by simp [go_sem]) ?_
  refine (catch_idle2 _ _ _).mono ?_
  rintro e u' X ⟨rfl, rfl, rfl⟩
  have n1 : w.heap.size ≠ w.heap.size + 1 := by omega
  have n2 : w.heap.size + 1 ≠ w.heap.size := by omega
  have hx0 : X.heap[w.heap.size]? = some (.cells #[.bool rb] 4 (0, 0)) := by
    rw [HX.out, Below.heap_setCell _ ⟨w.heap.size + 1, 0, none⟩ _ _ n1]
    exact obj_set (i := 0) _ Q0.out
  have hx1 : X.heap[w.heap.size + 1]? = some (.cells #[.bool true] 4 (0, 0)) := by
    rw [HX.out]
    refine obj_set (i := 0) (.bool true) ?_ (c := #[.bool false])
    rw [Below.heap_setCell _ ⟨w.heap.size, 0, none⟩ _ _ n2]
    exact Q1.out
  have x0 := obj_cell (i := 0) hx0 rfl
  have x1 := obj_cell (i := 0) hx1 rfl
  have hbX : Below w.heap.size w X := by
    rw [HX.out]
    exact ((HBW.out.trans (HB2.out.mono HBW.out.size)).setCell (p := ⟨w.heap.size, 0, none⟩) (Nat.le_refl _) _).setCell (p := ⟨w.heap.size + 1, 0, none⟩) (by show w.heap.size ≤ w.heap.size + 1; omega) _
  obtain ⟨R, hRd⟩ : ∃ R : Ending → World → Prop, R = fun (e : Ending) (w' : World) => e = .returned (.tuple #[.bool rb, .bool true]) ∧ Below w.heap.size w w' := ⟨_, rfl⟩
  have hR : R (.returned (.tuple #[.bool rb, .bool true])) X := by rw [hRd]; exact ⟨rfl, hbX⟩
  rw [← hRd]
  clear hRd hbX HX Q0 Q1 HB2 HBW HSW HW1 hx0 hx1
  have HR := Lib.hid hR
  clear hR
  show Leaves Tryz.prog Tryz.f30 _ R [] .returning X
  refine ⟨_, ?_, HR.out⟩
  rw [results_cell2 (p := 8) (u := 9) (a := 4) (b := 4) Tryz.results30]
  simp only [Array.getD, List.size_toArray, List.length_cons, List.length_nil]
  simp [asAddr, Result.andThen, go_sem, x0, x1]
end Go.Proofs.YtiebedcldbmlhaaGreatDoor
