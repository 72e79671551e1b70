/-
  Joined: CheckConstraint at the kinds 1, 6, 7 and 15, and where its data are too few.
  Conditions: each law's own.
-/
import Derived.Test.YtiebedcldbmlhaaGreatDoorK27
namespace Go.Proofs.YtiebedcldbmlhaaGreatDoor
open Go.RowKit
set_option linter.unusedVariables false

set_option maxHeartbeats 2000000 in
set_option maxRecDepth 100000 in
theorem check1 (bp o : Nat) (s : ByteArray) (w : World)
    (c0 : w.cell? ⟨bp, o, none⟩ = some (.int .i16 1)) :
    Calls Tryz.prog 34 #[.pointer (some ⟨bp, o, none⟩), .string s] w fun e w' => e = .returned (.bool true) ∧ Below w.heap.size w w' := by
  have hb1 := cell_lt c0
  go_enter Tryz.func34, Tryz.ntmps34
  go_wp2
  refine wp_loop_rounds 8 ?_
  iterate 8 (rw [rounds_succ]; go_wp2)
  refine wp_loop_rounds 3 ?_
  iterate 2 (rw [rounds_succ]; go_wp2)
  rw [rounds_succ]
  go_wp2_with fail
  go_ret
  exact ⟨rfl, below_two w _ _⟩

set_option maxHeartbeats 2000000 in
set_option maxRecDepth 100000 in
theorem check7 (bp o : Nat) (s : ByteArray) (w : World)
    (c0 : w.cell? ⟨bp, o, none⟩ = some (.int .i16 7)) :
    Calls Tryz.prog 34 #[.pointer (some ⟨bp, o, none⟩), .string s] w fun e w' => e = .returned (.bool true) ∧ Below w.heap.size w w' := by
  have hb1 := cell_lt c0
  go_enter Tryz.func34, Tryz.ntmps34
  go_wp2
  refine wp_loop_rounds 8 ?_
  iterate 8 (rw [rounds_succ]; go_wp2)
  refine wp_loop_rounds 3 ?_
  iterate 2 (rw [rounds_succ]; go_wp2)
  rw [rounds_succ]
  go_wp2_with fail
  go_ret
  exact ⟨rfl, below_two w _ _⟩

set_option maxHeartbeats 2000000 in
set_option maxRecDepth 100000 in
theorem check6 (bp o n cap : Nat) (a : Option Addr) (s : ByteArray) (w : World) (hn : 1 ≤ n)
    (c0 : w.cell? ⟨bp, o, none⟩ = some (.int .i16 6)) (c1 : w.cell? ⟨bp, o + 1, none⟩ = some (.slice a n cap)) :
    Calls Tryz.prog 34 #[.pointer (some ⟨bp, o, none⟩), .string s] w fun e w' => e = .returned (.bool true) ∧ Below w.heap.size w w' := by
  have hb1 := cell_lt c0
  go_enter Tryz.func34, Tryz.ntmps34
  go_wp2
  refine wp_loop_rounds 8 ?_
  iterate 8 (rw [rounds_succ]; go_wp2)
  refine wp_loop_rounds 3 ?_
  iterate 2 (rw [rounds_succ]; go_wp2)
  rw [rounds_succ]
  go_wp2_with fail
  go_ret
  exact ⟨rfl, below_two w _ _⟩

set_option maxHeartbeats 2000000 in
set_option maxRecDepth 100000 in
theorem check15 (bp o n cap : Nat) (a : Option Addr) (s : ByteArray) (w : World) (hn : 1 ≤ n)
    (c0 : w.cell? ⟨bp, o, none⟩ = some (.int .i16 15)) (c1 : w.cell? ⟨bp, o + 1, none⟩ = some (.slice a n cap)) :
    Calls Tryz.prog 34 #[.pointer (some ⟨bp, o, none⟩), .string s] w fun e w' => e = .returned (.bool true) ∧ Below w.heap.size w w' := by
  have hb1 := cell_lt c0
  go_enter Tryz.func34, Tryz.ntmps34
  go_wp2
  refine wp_loop_rounds 8 ?_
  iterate 8 (rw [rounds_succ]; go_wp2)
  refine wp_loop_rounds 3 ?_
  iterate 2 (rw [rounds_succ]; go_wp2)
  rw [rounds_succ]
  go_wp2_with fail
  go_ret
  exact ⟨rfl, below_two w _ _⟩

set_option maxHeartbeats 2000000 in
set_option maxRecDepth 100000 in
theorem none8 (bp o cap : Nat) (a : Option Addr) (s : ByteArray) (w : World)
    (c0 : w.cell? ⟨bp, o, none⟩ = some (.int .i16 8)) (c1 : w.cell? ⟨bp, o + 1, none⟩ = some (.slice a 0 cap)) :
    Calls Tryz.prog 34 #[.pointer (some ⟨bp, o, none⟩), .string s] w fun e w' => e = .returned (.bool false) ∧ Below w.heap.size w w' := by
  have hb1 := cell_lt c0
  go_enter Tryz.func34, Tryz.ntmps34
  go_wp2
  refine wp_loop_rounds 8 ?_
  rw [rounds_succ]
  go_wp2
  go_ret
  exact ⟨rfl, below_two w _ _⟩

set_option maxHeartbeats 2000000 in
set_option maxRecDepth 100000 in
theorem none9 (bp o cap : Nat) (a : Option Addr) (s : ByteArray) (w : World)
    (c0 : w.cell? ⟨bp, o, none⟩ = some (.int .i16 9)) (c1 : w.cell? ⟨bp, o + 1, none⟩ = some (.slice a 0 cap)) :
    Calls Tryz.prog 34 #[.pointer (some ⟨bp, o, none⟩), .string s] w fun e w' => e = .returned (.bool false) ∧ Below w.heap.size w w' := by
  have hb1 := cell_lt c0
  go_enter Tryz.func34, Tryz.ntmps34
  go_wp2
  refine wp_loop_rounds 8 ?_
  iterate 1 (rw [rounds_succ]; go_wp2)
  rw [rounds_succ]
  go_wp2
  go_ret
  exact ⟨rfl, below_two w _ _⟩

set_option maxHeartbeats 2000000 in
set_option maxRecDepth 100000 in
theorem none10 (bp o cap : Nat) (a : Option Addr) (s : ByteArray) (w : World)
    (c0 : w.cell? ⟨bp, o, none⟩ = some (.int .i16 10)) (c1 : w.cell? ⟨bp, o + 1, none⟩ = some (.slice a 0 cap)) :
    Calls Tryz.prog 34 #[.pointer (some ⟨bp, o, none⟩), .string s] w fun e w' => e = .returned (.bool false) ∧ Below w.heap.size w w' := by
  have hb1 := cell_lt c0
  go_enter Tryz.func34, Tryz.ntmps34
  go_wp2
  refine wp_loop_rounds 8 ?_
  iterate 2 (rw [rounds_succ]; go_wp2)
  rw [rounds_succ]
  go_wp2
  go_ret
  exact ⟨rfl, below_two w _ _⟩

set_option maxHeartbeats 2000000 in
set_option maxRecDepth 100000 in
theorem none12 (bp o cap : Nat) (a : Option Addr) (s : ByteArray) (w : World)
    (c0 : w.cell? ⟨bp, o, none⟩ = some (.int .i16 12)) (c1 : w.cell? ⟨bp, o + 1, none⟩ = some (.slice a 0 cap)) :
    Calls Tryz.prog 34 #[.pointer (some ⟨bp, o, none⟩), .string s] w fun e w' => e = .returned (.bool false) ∧ Below w.heap.size w w' := by
  have hb1 := cell_lt c0
  go_enter Tryz.func34, Tryz.ntmps34
  go_wp2
  refine wp_loop_rounds 8 ?_
  iterate 3 (rw [rounds_succ]; go_wp2)
  rw [rounds_succ]
  go_wp2
  go_ret
  exact ⟨rfl, below_two w _ _⟩

set_option maxHeartbeats 2000000 in
set_option maxRecDepth 100000 in
theorem none13 (bp o cap : Nat) (a : Option Addr) (s : ByteArray) (w : World)
    (c0 : w.cell? ⟨bp, o, none⟩ = some (.int .i16 13)) (c1 : w.cell? ⟨bp, o + 1, none⟩ = some (.slice a 0 cap)) :
    Calls Tryz.prog 34 #[.pointer (some ⟨bp, o, none⟩), .string s] w fun e w' => e = .returned (.bool false) ∧ Below w.heap.size w w' := by
  have hb1 := cell_lt c0
  go_enter Tryz.func34, Tryz.ntmps34
  go_wp2
  refine wp_loop_rounds 8 ?_
  iterate 4 (rw [rounds_succ]; go_wp2)
  rw [rounds_succ]
  go_wp2
  go_ret
  exact ⟨rfl, below_two w _ _⟩

set_option maxHeartbeats 2000000 in
set_option maxRecDepth 100000 in
theorem none6 (bp o cap : Nat) (a : Option Addr) (s : ByteArray) (w : World)
    (c0 : w.cell? ⟨bp, o, none⟩ = some (.int .i16 6)) (c1 : w.cell? ⟨bp, o + 1, none⟩ = some (.slice a 0 cap)) :
    Calls Tryz.prog 34 #[.pointer (some ⟨bp, o, none⟩), .string s] w fun e w' => e = .returned (.bool false) ∧ Below w.heap.size w w' := by
  have hb1 := cell_lt c0
  go_enter Tryz.func34, Tryz.ntmps34
  go_wp2
  refine wp_loop_rounds 8 ?_
  iterate 5 (rw [rounds_succ]; go_wp2)
  rw [rounds_succ]
  go_wp2
  go_ret
  exact ⟨rfl, below_two w _ _⟩

set_option maxHeartbeats 2000000 in
set_option maxRecDepth 100000 in
theorem none15 (bp o cap : Nat) (a : Option Addr) (s : ByteArray) (w : World)
    (c0 : w.cell? ⟨bp, o, none⟩ = some (.int .i16 15)) (c1 : w.cell? ⟨bp, o + 1, none⟩ = some (.slice a 0 cap)) :
    Calls Tryz.prog 34 #[.pointer (some ⟨bp, o, none⟩), .string s] w fun e w' => e = .returned (.bool false) ∧ Below w.heap.size w w' := by
  have hb1 := cell_lt c0
  go_enter Tryz.func34, Tryz.ntmps34
  go_wp2
  refine wp_loop_rounds 8 ?_
  iterate 6 (rw [rounds_succ]; go_wp2)
  rw [rounds_succ]
  go_wp2
  go_ret
  exact ⟨rfl, below_two w _ _⟩

set_option maxHeartbeats 2000000 in
set_option maxRecDepth 100000 in
theorem none11 (bp o n cap : Nat) (a : Option Addr) (s : ByteArray) (w : World) (hn : n < 2)
    (c0 : w.cell? ⟨bp, o, none⟩ = some (.int .i16 11)) (c1 : w.cell? ⟨bp, o + 1, none⟩ = some (.slice a n cap)) :
    Calls Tryz.prog 34 #[.pointer (some ⟨bp, o, none⟩), .string s] w fun e w' => e = .returned (.bool false) ∧ Below w.heap.size w w' := by
  have hb1 := cell_lt c0
  go_enter Tryz.func34, Tryz.ntmps34
  go_wp2
  refine wp_loop_rounds 8 ?_
  iterate 8 (rw [rounds_succ]; go_wp2)
  refine wp_loop_rounds 3 ?_
  rw [rounds_succ]
  go_wp2
  go_ret
  exact ⟨rfl, below_two w _ _⟩

set_option maxHeartbeats 2000000 in
set_option maxRecDepth 100000 in
theorem none14 (bp o n cap : Nat) (a : Option Addr) (s : ByteArray) (w : World) (hn : n < 2)
    (c0 : w.cell? ⟨bp, o, none⟩ = some (.int .i16 14)) (c1 : w.cell? ⟨bp, o + 1, none⟩ = some (.slice a n cap)) :
    Calls Tryz.prog 34 #[.pointer (some ⟨bp, o, none⟩), .string s] w fun e w' => e = .returned (.bool false) ∧ Below w.heap.size w w' := by
  have hb1 := cell_lt c0
  go_enter Tryz.func34, Tryz.ntmps34
  go_wp2
  refine wp_loop_rounds 8 ?_
  iterate 8 (rw [rounds_succ]; go_wp2)
  refine wp_loop_rounds 3 ?_
  iterate 1 (rw [rounds_succ]; go_wp2)
  rw [rounds_succ]
  go_wp2
  go_ret
  exact ⟨rfl, below_two w _ _⟩
end Go.Proofs.YtiebedcldbmlhaaGreatDoor
