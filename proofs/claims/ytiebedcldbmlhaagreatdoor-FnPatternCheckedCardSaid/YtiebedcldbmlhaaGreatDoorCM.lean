/-
  FnPatternChecked returns true and writes nothing that was there. Conditions: of a size that addresses allow; what the error variables and the letters' table hold.
-/
import Derived.Test.YtiebedcldbmlhaaGreatDoorCK
import Derived.Test.YtiebedcldbmlhaaGreatDoorCL
namespace Go.Proofs.YtiebedcldbmlhaaGreatDoor
open Go.RowKit
set_option linter.unusedVariables false

set_option maxHeartbeats 2000000 in
set_option maxRecDepth 100000 in
theorem checked_big (nm v : ByteArray) (kind n : Int) (w : World) (hb : 2147483647 < nm.size ∨ 2147483647 < v.size) :
    Calls Tryz.prog 8 #[.string nm, .string v, .int .i64 kind, .int .i64 n] w fun e w' => e = .returned (.bool true) ∧ Below w.heap.size w w' := by
  by_cases h1 : 2147483647 < nm.size
  · clear hb
    go_enter Tryz.func8, Tryz.ntmps8
    go_wp2_with fail
    go_ret
    exact ⟨rfl, Below.refl _ _⟩
  · have h2 : 2147483647 < v.size := by omega
    clear hb
    go_enter Tryz.func8, Tryz.ntmps8
    go_wp2_with fail
    go_ret
    exact ⟨rfl, Below.refl _ _⟩

set_option maxHeartbeats 2000000 in
set_option maxRecDepth 100000 in
theorem checked_other (nm v : ByteArray) (kind n : Int) (w : World) (hZ : EnvZ w) (hs1 : nm.size ≤ 2147483647) (hv1 : v.size ≤ 2147483647) (h2 : kind ≠ 2) (h3 : kind ≠ 3) (h5 : kind ≠ 5) (h8 : kind ≠ 8) (h9 : kind ≠ 9) (h10 : kind ≠ 10) :
    Calls Tryz.prog 8 #[.string nm, .string v, .int .i64 kind, .int .i64 n] w fun e w' => e = .returned (.bool true) ∧ Below w.heap.size w w' := by
  have HMA := Lib.hid (matches_any w hZ)
  clear hZ
  have k2 : (kind == 2) = false := by simpa using h2
  have k3 : (kind == 3) = false := by simpa using h3
  have k5 : (kind == 5) = false := by simpa using h5
  have k8 : (kind == 8) = false := by simpa using h8
  have k9 : (kind == 9) = false := by simpa using h9
  have k10 : (kind == 10) = false := by simpa using h10
  go_enter Tryz.func8, Tryz.ntmps8
  go_wp2_with fail
  refine HMA.out.mono ?_
  rintro e w1 ⟨rfl, hb1⟩
  have HB1 := Lib.hid hb1
  clear hb1
  go_wp2_with fail
  go_ret
  exact ⟨rfl, HB1.out.alloc HB1.out.size _⟩

set_option maxHeartbeats 2000000 in
set_option maxRecDepth 100000 in
theorem checked_out (nm v : ByteArray) (kind n : Int) (w : World) (hZ : EnvZ w) (hs1 : nm.size ≤ 2147483647) (hv1 : v.size ≤ 2147483647) (hk : kind = 8 ∨ kind = 9 ∨ kind = 10) (hn : n < 0 ∨ 1000 < n) :
    Calls Tryz.prog 8 #[.string nm, .string v, .int .i64 kind, .int .i64 n] w fun e w' => e = .returned (.bool true) ∧ Below w.heap.size w w' := by
  have HMA := Lib.hid (matches_any w hZ)
  clear hZ
  rcases hk with rfl | rfl | rfl <;> rcases hn with hn | hn <;>
  · go_enter Tryz.func8, Tryz.ntmps8
    go_wp2_with fail
    refine HMA.out.mono ?_
    rintro e w1 ⟨rfl, hb1⟩
    have HB1 := Lib.hid hb1
    clear hb1
    go_wp2_with fail
    go_ret
    exact ⟨rfl, HB1.out.alloc HB1.out.size _⟩

theorem checked_law (nm v : ByteArray) (kind n : Int) (w : World) (hE : EnvC w) (hZ : EnvZ w) (hs : nm.size ≤ 140737488351232) (hv : v.size ≤ 140737488351232) :
    Calls Tryz.prog 8 #[.string nm, .string v, .int .i64 kind, .int .i64 n] w fun e w' => e = .returned (.bool true) ∧ Below w.heap.size w w' := by
  by_cases hb : 2147483647 < nm.size ∨ 2147483647 < v.size
  · exact checked_big nm v kind n w hb
  have hs1 : nm.size ≤ 2147483647 := by omega
  have hv1 : v.size ≤ 2147483647 := by omega
  by_cases h2 : kind = 2
  · subst h2; exact checked_2 nm v n w hE hZ hs hv hs1 hv1
  by_cases h3 : kind = 3
  · subst h3; exact checked_3 nm v n w hE hZ hs hv hs1 hv1
  by_cases h5 : kind = 5
  · subst h5; exact checked_5 nm v n w hE hZ hs hv hs1 hv1
  by_cases hk : kind = 8 ∨ kind = 9 ∨ kind = 10
  · by_cases hn : n < 0 ∨ 1000 < n
    · exact checked_out nm v kind n w hZ hs1 hv1 hk hn
    have hn0 : 0 ≤ n := by omega
    have hn1 : n ≤ 1000 := by omega
    rcases hk with rfl | rfl | rfl
    · exact checked_8 nm v n w hE hZ hs hv hs1 hv1 hn0 hn1
    · exact checked_9 nm v n w hE hZ hs hv hs1 hv1 hn0 hn1
    · exact checked_10 nm v n w hE hZ hs hv hs1 hv1 hn0 hn1
  exact checked_other nm v kind n w hZ hs1 hv1 h2 h3 h5 (fun h => hk (.inl h)) (fun h => hk (.inr (.inl h))) (fun h => hk (.inr (.inr h)))
end Go.Proofs.YtiebedcldbmlhaaGreatDoor
