/-
  RoutePatternMatch where letters and a slash at the end count, of any pattern without constraints that does not panic. Conditions: a pattern of at most a million bytes; the table that Itoa reads.
-/
import Derived.Test.YtiebedcldbmlhaaGreatDoorAI
namespace Go.Proofs.YtiebedcldbmlhaaGreatDoor
open Go.RowKit
set_option linter.unusedVariables false

/-- What RoutePatternMatch answers. -/
def routeB (M : List Seg) (N : List Bs) (pp q : Bs) : Bool := (decide (0 < N.length) && (mres M false q).isSome) || decide (unesc pp = q)

set_option maxHeartbeats 4000000 in
set_option maxRecDepth 100000 in
theorem route_strict (p s : ByteArray) (c cap : Nat) (w : World) (hE : EnvZ w) (hs : s.size ≤ 1000000) (hp : p.size ≤ 1000000000) (hp0 : 0 < p.size) (x : UInt8) (t : Bs) (hsd : s.data.toList = 47 :: x :: t) (hx : x ≠ 42) (h60 : ∀ y ∈ s.data.toList, y ≠ 60) (M : List Seg) (N : List Bs) (hM : parse s.data.toList = some (M, N)) (hM0 : 0 < M.length)
    (k0 : w.cell? ⟨c, 0, none⟩ = some (.bool true)) (k1 : w.cell? ⟨c, 1, none⟩ = some (.bool true)) :
    Calls Tryz.prog 42 #[.string p, .string s, .slice (some ⟨c, 0, none⟩) 1 cap] w fun e w' => e = .returned (.bool (routeB M N s.data.toList p.data.toList)) ∧ Below w.heap.size w w' := by
  have hcl : c < w.heap.size := cell_lt k0
  have hs2 : 2 ≤ s.size := by rw [← size_data, hsd]; simp
  have hpe : p.toList.isEmpty = false := by
    rw [Lib.toList_data, Bool.eq_false_iff]
    intro h
    have h2 := size_data p
    rw [List.isEmpty_iff.1 h] at h2
    simp at h2; omega
  have hse : s.toList.isEmpty = false := by rw [Lib.toList_data, hsd]; rfl
  have hs0 : s[0]'(by omega) = 47 := by
    have h1 := byte_at s 0 (by omega)
    rw [hsd] at h1
    exact (Option.some.inj h1).symm
  have hq : (((s[0]'(by omega)).toNat : Int) != 47) = false := by rw [hs0]; rfl
  have h8 : (s.toList == [47]) = false := by rw [Lib.toList_data, hsd]; rw [beq_eq_false_iff_ne]; simp
  have h9 : (s.toList == [47, 42]) = false := by
    rw [Lib.toList_data, hsd, beq_eq_false_iff_ne]
    simp only [ne_eq, List.cons.injEq, true_and, not_and]
    exact fun e => absurd e hx
  obtain ⟨W2, hW2⟩ : ∃ W2, W2 = ((w.alloc (Obj.cells (Array.replicate 30 (Value.string ⟨#[]⟩)) 81)).alloc (Obj.cells #[.bool true, .bool true] 76)) := ⟨_, rfl⟩
  have a0 : ∀ o o', ((w.alloc o).alloc o').cell? ⟨c, 0, none⟩ = some (.bool true) := fun o o' => by
    rw [cell_alloc, if_neg (by simp; omega), cell_alloc, if_neg (by omega)]; exact k0
  have a1 : ∀ o o', ((w.alloc o).alloc o').cell? ⟨c, 1, none⟩ = some (.bool true) := fun o o' => by
    rw [cell_alloc, if_neg (by simp; omega), cell_alloc, if_neg (by omega)]; exact k1
  have HSD := Lib.hid hsd
  have HM := Lib.hid hM
  have H60 := Lib.hid h60
  have HE := Lib.hid hE
  have HS0 := Lib.hid hs0
  clear hsd hM h60 hE hs0
  go_enter Tryz.func42, Tryz.ntmps42
  have hbW : Below w.heap.size w W2 := by rw [hW2]; exact ((Below.refl _ _).alloc (Nat.le_refl _) _).alloc (by simp) _
  have hsW : W2.heap.size = w.heap.size + 1 + 1 := by rw [hW2]; simp
  have hA2 : W2.heap[w.heap.size]? = some (.cells (Array.replicate 30 (Value.string ⟨#[]⟩)) 81 (0, 0)) := by
    rw [hW2, Below.heap_alloc _ _ _ (by simp), heap_alloc_new]
  obtain ⟨hgood, hnames, h30, hML⟩ := parse_good HM.out H60.out (by rw [size_data]; exact hs)
  obtain ⟨B, hB, htab⟩ := HE.out.below hbW
  have HPA := Lib.hid (parse_any s B W2 hs (by omega) H60.out M N HM.out hB htab)
  have HNM := Lib.hid (show N.length = (M.filter (·.isParam)).length by rw [hnames]; simp)
  have HGD := Lib.hid hgood
  have HBW := Lib.hid hbW
  have HSW := Lib.hid hsW
  have HA2 := Lib.hid hA2
  have HW2 := Lib.hid hW2
  clear htab hnames hgood hbW hsW hA2 hW2
  go_wp2_with fail
  rw [show (#[Value.string { data := #[] }, Value.string { data := #[] }, Value.string { data := #[] }, Value.string { data := #[] }, Value.string { data := #[] }, Value.string { data := #[] }, Value.string { data := #[] }, Value.string { data := #[] }, Value.string { data := #[] }, Value.string { data := #[] }, Value.string { data := #[] }, Value.string { data := #[] }, Value.string { data := #[] }, Value.string { data := #[] }, Value.string { data := #[] }, Value.string { data := #[] }, Value.string { data := #[] }, Value.string { data := #[] }, Value.string { data := #[] }, Value.string { data := #[] }, Value.string { data := #[] }, Value.string { data := #[] }, Value.string { data := #[] }, Value.string { data := #[] }, Value.string { data := #[] }, Value.string { data := #[] }, Value.string { data := #[] }, Value.string { data := #[] }, Value.string { data := #[] }, Value.string { data := #[] }] : Array Value) = Array.replicate 30 (Value.string ⟨#[]⟩) from rfl, ← HW2.out]
  refine HPA.out.mono ?_
  rintro e w1 ⟨gs, cvs, r, cap1, pv, st, pl, rfl, hin, hnod, hemp, hrow, hrl, hown, hb1⟩
  obtain ⟨ao, ncap, rfl⟩ := own_form hown
  obtain ⟨W3, hW3⟩ : ∃ W3, W3 = w1.alloc (Obj.cells #[Value.slice (some ⟨r, 0, none⟩) M.length cap1, Value.slice ao N.length ncap, Value.int IntKind.i64 st, Value.int IntKind.i64 pl] 79) := ⟨_, rfl⟩
  have hb3 : Below w1.heap.size w1 W3 := by rw [hW3]; exact (Below.refl _ _).alloc (Nat.le_refl _) _
  have hQo : W3.heap[w1.heap.size]? = some (.cells #[.slice (some ⟨r, 0, none⟩) M.length cap1, .slice ao N.length ncap, .int .i64 st, .int .i64 pl] 79 (0, 0)) := by rw [hW3, heap_alloc_new]
  have hQ := obj_cell (i := 0) hQo rfl
  have hQ1 := obj_cell (i := 1) hQo rfl
  have hsz1 := hb1.size
  have hA3 : W3.heap[w.heap.size]? = some (.cells (Array.replicate 30 (Value.string ⟨#[]⟩)) 81 (0, 0)) :=
    (hb3.block _ (by have := HSW.out; omega)).trans ((hb1.block _ (by have := HSW.out; omega)).trans HA2.out)
  have hA1 : w1.heap[w.heap.size]? = some (.cells (Array.replicate 30 (Value.string ⟨#[]⟩)) 81 (0, 0)) := (hb1.block _ (by have := HSW.out; omega)).trans HA2.out
  have hAg : w.heap.size ∉ gs := fun hm => by
    obtain ⟨i, hi, he⟩ := List.getElem_of_mem hm
    have hiM : i < M.length := by rw [← hin.1]; exact hi
    obtain ⟨g', cv, h1, _, h3⟩ := hin.2.2 i M[i] (List.getElem?_eq_getElem hiM)
    rw [List.getElem?_eq_getElem hi, he] at h1
    cases h1
    have h4 : w1.heap[w.heap.size]? = some (.cells (segCells M[i] cv).toArray 99 (0, 0)) := h3
    rw [hA1] at h4
    simp at h4
  have hAr : w.heap.size ≠ r := fun e => by
    have hg0 : 0 < gs.length := by rw [hin.1]; exact hM0
    have h1 := hrow 0 gs[0] (List.getElem?_eq_getElem hg0)
    rw [← e, obj_cell (i := 0) (v := .string ⟨#[]⟩) hA1 (by simp)] at h1
    cases h1
  have hcall := match_any p false w1.heap.size r cap1 w.heap.size M gs cvs W3 hp hML hQ (fun i g h => (hb3.cell (p := ⟨r, i, none⟩) hrl).trans (hrow i g h)) (hin.below hb3) hemp HGD.out (by rw [← HNM.out]; exact h30)
    ⟨Touch.refl _ _, _, hA3, by simp, fun i v h => by simp at h⟩ hAr hAg
  have HMC := Lib.hid hcall
  have HB3 := Lib.hid (HBW.out.trans ((hb1.mono (by have := HSW.out; omega)).trans (hb3.mono (by have := HSW.out; omega))))
  have HQ1 := Lib.hid hQ1
  have HW3 := Lib.hid hW3
  clear hcall hA3 hQo hQ hQ1 hb3 hin hnod hemp hrow hrl hown hb1 hAg hAr hA1 hW3
  have hun := Lib.hid (fun w' => unesc_any s w' (by omega))
  have hul : (unesc s.data.toList).length ≤ 1000000 := by have := List.length_filter_le (· != 92) s.data.toList; rw [size_data] at this; show (List.filter (· != 92) _).length ≤ _; omega
  have hul2 := Lib.hid (size_data p)
  obtain ⟨us, hus⟩ : ∃ us, us = unesc s.data.toList := ⟨_, rfl⟩
  rw [← hus] at hul
  have HUS := Lib.hid hus
  have hun2 : ∀ w' : World, Calls Tryz.prog 51 #[.string s] w' fun e w'' => e = .returned (.string (bs us)) ∧ Below w'.heap.size w' w'' := fun w' => by rw [hus]; exact hun.out w'
  have HUN := Lib.hid hun2
  clear hus hun2 hun
  by_cases hN0 : N.length = 0
  · have HN0 := Lib.hid (show routeB M N s.data.toList p.data.toList = decide (us = p.data.toList) by unfold routeB; rw [hN0, HUS.out]; rfl)
    have hNn : ¬ 0 < N.length := by omega
    clear hN0
    go_wp2_with fail
    rw [← HW3.out]
    refine (HUN.out W3).mono ?_
    rintro e w4 ⟨rfl, hb4⟩
    have HB4 := Lib.hid (HB3.out.trans (hb4.mono HB3.out.size))
    clear hb4
    by_cases heq : us = p.data.toList
    · have hl1 : ((us.length : Int) == (p.size : Int)) = true := by rw [beq_iff_eq, heq, size_data]
      have hq2 : (us == p.toList) = true := by rw [Lib.toList_data, beq_iff_eq]; exact heq
      have HQ := Lib.hid heq
      clear heq
      go_wp2_with fail
      go_ret
      exact ⟨ret_bool (by rw [HN0.out, decide_eq_true HQ.out]), HB4.out⟩
    · have hq2 : (us == p.toList) = false := by rw [Lib.toList_data, beq_eq_false_iff_ne]; exact heq
      have HQ := Lib.hid heq
      clear heq
      by_cases hle : us.length = p.size
      · have hl1 : ((us.length : Int) == (p.size : Int)) = true := by rw [beq_iff_eq]; omega
        clear hle
        go_wp2_with fail
        go_ret
        exact ⟨ret_bool (by rw [HN0.out, decide_eq_false HQ.out]), HB4.out⟩
      · have hl1 : ((us.length : Int) == (p.size : Int)) = false := by rw [beq_eq_false_iff_ne]; omega
        clear hle
        go_wp2_with fail
        go_ret
        exact ⟨ret_bool (by rw [HN0.out, decide_eq_false HQ.out]), HB4.out⟩
  · have hN1 : 0 < N.length := by omega
    have HR := Lib.hid (show routeB M N s.data.toList p.data.toList = ((mres M false p.data.toList).isSome || decide (us = p.data.toList)) by unfold routeB; rw [decide_eq_true hN1, HUS.out]; rfl)
    clear hN0
    go_wp2_with fail
    rw [← HW3.out]
    refine HMC.out.mono ?_
    rintro e w4 ⟨rfl, ht, ha⟩
    have hb4 : Below w.heap.size w w4 := HB3.out.trans (touch_to_below ht (fun g hg => by simp at hg; omega) HB3.out.size)
    have HB4 := Lib.hid hb4
    clear hb4 ht ha HMC
    cases hm : (mres M false p.data.toList).isSome with
    | true =>
      have HM1 := Lib.hid hm
      clear hm
      go_wp2_with fail
      go_ret
      exact ⟨ret_bool (by rw [HR.out, HM1.out]; rfl), HB4.out⟩
    | false =>
      have HM1 := Lib.hid hm
      clear hm
      go_wp2_with fail
      refine (HUN.out w4).mono ?_
      rintro e w5 ⟨rfl, hb5⟩
      have HB5 := Lib.hid (HB4.out.trans (hb5.mono HB4.out.size))
      clear hb5
      by_cases heq : us = p.data.toList
      · have hl1 : ((us.length : Int) == (p.size : Int)) = true := by rw [beq_iff_eq, heq, size_data]
        have hq2 : (us == p.toList) = true := by rw [Lib.toList_data, beq_iff_eq]; exact heq
        have HQ := Lib.hid heq
        clear heq
        go_wp2_with fail
        go_ret
        exact ⟨ret_bool (by rw [HR.out, HM1.out, decide_eq_true HQ.out]; rfl), HB5.out⟩
      · have hq2 : (us == p.toList) = false := by rw [Lib.toList_data, beq_eq_false_iff_ne]; exact heq
        have HQ := Lib.hid heq
        clear heq
        by_cases hle : us.length = p.size
        · have hl1 : ((us.length : Int) == (p.size : Int)) = true := by rw [beq_iff_eq]; omega
          clear hle
          go_wp2_with fail
          go_ret
          exact ⟨ret_bool (by rw [HR.out, HM1.out, decide_eq_false HQ.out]; rfl), HB5.out⟩
        · have hl1 : ((us.length : Int) == (p.size : Int)) = false := by rw [beq_eq_false_iff_ne]; omega
          clear hle
          go_wp2_with fail
          go_ret
          exact ⟨ret_bool (by rw [HR.out, HM1.out, decide_eq_false HQ.out]; rfl), HB5.out⟩
end Go.Proofs.YtiebedcldbmlhaaGreatDoor
