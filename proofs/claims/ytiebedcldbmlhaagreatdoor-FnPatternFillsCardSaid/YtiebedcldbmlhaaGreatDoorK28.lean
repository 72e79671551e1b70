/-
  Joined: CheckConstraint at the kinds 11, 12, 13 and 14.
  Conditions: each law's own.
-/
import Derived.Test.YtiebedcldbmlhaaGreatDoorK27
namespace Go.Proofs.YtiebedcldbmlhaaGreatDoor
open Go.RowKit
set_option linter.unusedVariables false

set_option maxHeartbeats 2000000 in
set_option maxRecDepth 100000 in
theorem check11 (bp o b off cap n : Nat) (s d0 d1 : ByteArray) (w : World) (hE : EnvC w) (hs : s.size ≤ 140737488351232) (hd0 : d0.size ≤ 140737488351232) (hd1 : d1.size ≤ 140737488351232) (hn : 2 ≤ n)
    (c0 : w.cell? ⟨bp, o, none⟩ = some (.int .i16 11)) (c1 : w.cell? ⟨bp, o + 1, none⟩ = some (.slice (some ⟨b, off, none⟩) n cap))
    (c2 : w.cell? ⟨b, off, none⟩ = some (.string d0)) (c3 : w.cell? ⟨b, off + 1, none⟩ = some (.string d1)) :
    Calls Tryz.prog 34 #[.pointer (some ⟨bp, o, none⟩), .string s] w fun e w' => e = .returned (.bool (decide (atoiVal d0.data.toList ≤ s.size) && decide ((s.size : Int) ≤ atoiVal d1.data.toList))) ∧ Below w.heap.size w w' := by
  have hb1 := cell_lt c0
  have hb2 := cell_lt c2
  obtain ⟨q, hq⟩ : ∃ q, q = atoiVal d0.data.toList := ⟨_, rfl⟩
  have hq1 : -9223372036854775808 ≤ q := by rw [hq]; exact (atoiVal_bounds _).1
  have hq2 : q ≤ 9223372036854775807 := by rw [hq]; exact (atoiVal_bounds _).2
  have Hq := Lib.hid hq
  clear hq
  obtain ⟨r, hr⟩ : ∃ q, q = atoiVal d1.data.toList := ⟨_, rfl⟩
  have hr1 : -9223372036854775808 ≤ r := by rw [hr]; exact (atoiVal_bounds _).1
  have hr2 : r ≤ 9223372036854775807 := by rw [hr]; exact (atoiVal_bounds _).2
  have Hr := Lib.hid hr
  clear hr
  have HK := Lib.hid (show ∀ w', Below w.heap.size w w' → w'.cell? ⟨bp, o, none⟩ = w.cell? ⟨bp, o, none⟩ ∧ w'.cell? ⟨bp, o + 1, none⟩ = w.cell? ⟨bp, o + 1, none⟩ ∧ w'.cell? ⟨b, off, none⟩ = w.cell? ⟨b, off, none⟩ ∧ w'.cell? ⟨b, off + 1, none⟩ = w.cell? ⟨b, off + 1, none⟩ from fun w' h => ⟨h.cell (p := ⟨bp, o, none⟩) hb1, h.cell (p := ⟨bp, o + 1, none⟩) hb1, h.cell (p := ⟨b, off, none⟩) hb2, h.cell (p := ⟨b, off + 1, none⟩) hb2⟩)
  go_enter Tryz.func34, Tryz.ntmps34
  go_wp2
  refine wp_loop_rounds 8 ?_
  iterate 8 (rw [rounds_succ]; go_wp2)
  refine wp_loop_rounds 3 ?_
  iterate 2 (rw [rounds_succ]; go_wp2)
  rw [rounds_succ]
  go_wp2_with fail
  refine (atoi_any d0 (by omega) _ (hE.below (below_two _ _ _))).mono ?_
  rintro e w1 ⟨ev, rfl, herr, hb⟩
  rw [← Hq.out]
  have hB1 := (below_two w _ _).trans (hb.mono (Nat.le_trans (below_two w _ _).size (Nat.le_refl _)))
  clear hb
  clear herr
  have c20 := ((HK.out _ hB1).1).trans c0
  have c21 := ((HK.out _ hB1).2.1).trans c1
  have c22 := ((HK.out _ hB1).2.2.1).trans c2
  have c23 := ((HK.out _ hB1).2.2.2).trans c3
  have HB1 := Lib.hid hB1
  clear hB1
  go_wp2_with fail
  refine (atoi_any d1 (by omega) _ (hE.below HB1.out)).mono ?_
  rintro e w2 ⟨ev2, rfl, herr2, hb⟩
  rw [← Hr.out]
  have hB2 := HB1.out.trans (hb.mono HB1.out.size)
  clear hb
  clear herr2
  have HB2 := Lib.hid hB2
  clear hB2
  go_wp2
  all_goals
    go_ret
    exact ⟨ret_bool (by rw [← Hq.out, ← Hr.out]; symm; first | (rw [Bool.and_eq_true, decide_eq_true_eq, decide_eq_true_eq]; omega) | (rw [Bool.and_eq_false_iff, decide_eq_false_iff_not, decide_eq_false_iff_not]; omega)), HB2.out⟩


set_option maxHeartbeats 2000000 in
set_option maxRecDepth 100000 in
theorem check12 (bp o b off cap n : Nat) (s d0 d1 : ByteArray) (w : World) (hE : EnvC w) (hs : s.size ≤ 140737488351232) (hd0 : d0.size ≤ 140737488351232) (hd1 : d1.size ≤ 140737488351232) (hn : 1 ≤ n)
    (c0 : w.cell? ⟨bp, o, none⟩ = some (.int .i16 12)) (c1 : w.cell? ⟨bp, o + 1, none⟩ = some (.slice (some ⟨b, off, none⟩) n cap))
    (c2 : w.cell? ⟨b, off, none⟩ = some (.string d0)) :
    Calls Tryz.prog 34 #[.pointer (some ⟨bp, o, none⟩), .string s] w fun e w' => e = .returned (.bool (decide (atoiVal d0.data.toList ≤ atoiVal s.data.toList) && atoiOk s.data.toList)) ∧ Below w.heap.size w w' := by
  have hb1 := cell_lt c0
  have hb2 := cell_lt c2
  obtain ⟨q, hq⟩ : ∃ q, q = atoiVal d0.data.toList := ⟨_, rfl⟩
  have hq1 : -9223372036854775808 ≤ q := by rw [hq]; exact (atoiVal_bounds _).1
  have hq2 : q ≤ 9223372036854775807 := by rw [hq]; exact (atoiVal_bounds _).2
  have Hq := Lib.hid hq
  clear hq
  obtain ⟨v, hv⟩ : ∃ q, q = atoiVal s.data.toList := ⟨_, rfl⟩
  have hv1 : -9223372036854775808 ≤ v := by rw [hv]; exact (atoiVal_bounds _).1
  have hv2 : v ≤ 9223372036854775807 := by rw [hv]; exact (atoiVal_bounds _).2
  have Hv := Lib.hid hv
  clear hv
  have HK := Lib.hid (show ∀ w', Below w.heap.size w w' → w'.cell? ⟨bp, o, none⟩ = w.cell? ⟨bp, o, none⟩ ∧ w'.cell? ⟨bp, o + 1, none⟩ = w.cell? ⟨bp, o + 1, none⟩ ∧ w'.cell? ⟨b, off, none⟩ = w.cell? ⟨b, off, none⟩ ∧ w'.cell? ⟨b, off + 1, none⟩ = w.cell? ⟨b, off + 1, none⟩ from fun w' h => ⟨h.cell (p := ⟨bp, o, none⟩) hb1, h.cell (p := ⟨bp, o + 1, none⟩) hb1, h.cell (p := ⟨b, off, none⟩) hb2, h.cell (p := ⟨b, off + 1, none⟩) hb2⟩)
  go_enter Tryz.func34, Tryz.ntmps34
  go_wp2
  refine wp_loop_rounds 8 ?_
  iterate 8 (rw [rounds_succ]; go_wp2)
  refine wp_loop_rounds 3 ?_
  iterate 2 (rw [rounds_succ]; go_wp2)
  rw [rounds_succ]
  go_wp2_with fail
  refine (atoi_any d0 (by omega) _ (hE.below (below_two _ _ _))).mono ?_
  rintro e w1 ⟨ev, rfl, herr, hb⟩
  rw [← Hq.out]
  have hB1 := (below_two w _ _).trans (hb.mono (Nat.le_trans (below_two w _ _).size (Nat.le_refl _)))
  clear hb
  clear herr
  have c20 := ((HK.out _ hB1).1).trans c0
  have c21 := ((HK.out _ hB1).2.1).trans c1
  have c22 := ((HK.out _ hB1).2.2.1).trans c2
  have HB1 := Lib.hid hB1
  clear hB1
  go_wp2_with fail
  refine (atoi_any s (by omega) _ (hE.below HB1.out)).mono ?_
  rintro e w2 ⟨ev2, rfl, herr2, hb⟩
  rw [← Hv.out]
  have hB2 := HB1.out.trans (hb.mono HB1.out.size)
  clear hb
  simp only [ErrIs] at herr2
  cases hok : atoiOk s.data.toList
  · simp only [hok, Bool.false_eq_true, if_false] at herr2
    obtain ⟨N, rfl⟩ := herr2
    have HOK := Lib.hid hok
    clear hok
    have HB2 := Lib.hid hB2
    clear hB2
    have hnil := nil_ne N
    go_wp2
    all_goals
      go_ret
      exact ⟨ret_bool (by rw [HOK.out]; simp), HB2.out⟩
  · simp only [hok, if_true] at herr2
    subst herr2
    have HOK := Lib.hid hok
    clear hok
    have HB2 := Lib.hid hB2
    clear hB2
    go_wp2
    all_goals
      go_ret
      exact ⟨ret_bool (by rw [HOK.out, ← Hq.out, ← Hv.out]; symm; first | (rw [Bool.and_true, decide_eq_true_eq]; omega) | (rw [Bool.and_true, decide_eq_false_iff_not]; omega)), HB2.out⟩


set_option maxHeartbeats 2000000 in
set_option maxRecDepth 100000 in
theorem check13 (bp o b off cap n : Nat) (s d0 d1 : ByteArray) (w : World) (hE : EnvC w) (hs : s.size ≤ 140737488351232) (hd0 : d0.size ≤ 140737488351232) (hd1 : d1.size ≤ 140737488351232) (hn : 1 ≤ n)
    (c0 : w.cell? ⟨bp, o, none⟩ = some (.int .i16 13)) (c1 : w.cell? ⟨bp, o + 1, none⟩ = some (.slice (some ⟨b, off, none⟩) n cap))
    (c2 : w.cell? ⟨b, off, none⟩ = some (.string d0)) :
    Calls Tryz.prog 34 #[.pointer (some ⟨bp, o, none⟩), .string s] w fun e w' => e = .returned (.bool (decide (atoiVal s.data.toList ≤ atoiVal d0.data.toList) && atoiOk s.data.toList)) ∧ Below w.heap.size w w' := by
  have hb1 := cell_lt c0
  have hb2 := cell_lt c2
  obtain ⟨q, hq⟩ : ∃ q, q = atoiVal d0.data.toList := ⟨_, rfl⟩
  have hq1 : -9223372036854775808 ≤ q := by rw [hq]; exact (atoiVal_bounds _).1
  have hq2 : q ≤ 9223372036854775807 := by rw [hq]; exact (atoiVal_bounds _).2
  have Hq := Lib.hid hq
  clear hq
  obtain ⟨v, hv⟩ : ∃ q, q = atoiVal s.data.toList := ⟨_, rfl⟩
  have hv1 : -9223372036854775808 ≤ v := by rw [hv]; exact (atoiVal_bounds _).1
  have hv2 : v ≤ 9223372036854775807 := by rw [hv]; exact (atoiVal_bounds _).2
  have Hv := Lib.hid hv
  clear hv
  have HK := Lib.hid (show ∀ w', Below w.heap.size w w' → w'.cell? ⟨bp, o, none⟩ = w.cell? ⟨bp, o, none⟩ ∧ w'.cell? ⟨bp, o + 1, none⟩ = w.cell? ⟨bp, o + 1, none⟩ ∧ w'.cell? ⟨b, off, none⟩ = w.cell? ⟨b, off, none⟩ ∧ w'.cell? ⟨b, off + 1, none⟩ = w.cell? ⟨b, off + 1, none⟩ from fun w' h => ⟨h.cell (p := ⟨bp, o, none⟩) hb1, h.cell (p := ⟨bp, o + 1, none⟩) hb1, h.cell (p := ⟨b, off, none⟩) hb2, h.cell (p := ⟨b, off + 1, none⟩) hb2⟩)
  go_enter Tryz.func34, Tryz.ntmps34
  go_wp2
  refine wp_loop_rounds 8 ?_
  iterate 8 (rw [rounds_succ]; go_wp2)
  refine wp_loop_rounds 3 ?_
  iterate 2 (rw [rounds_succ]; go_wp2)
  rw [rounds_succ]
  go_wp2_with fail
  refine (atoi_any d0 (by omega) _ (hE.below (below_two _ _ _))).mono ?_
  rintro e w1 ⟨ev, rfl, herr, hb⟩
  rw [← Hq.out]
  have hB1 := (below_two w _ _).trans (hb.mono (Nat.le_trans (below_two w _ _).size (Nat.le_refl _)))
  clear hb
  clear herr
  have c20 := ((HK.out _ hB1).1).trans c0
  have c21 := ((HK.out _ hB1).2.1).trans c1
  have c22 := ((HK.out _ hB1).2.2.1).trans c2
  have HB1 := Lib.hid hB1
  clear hB1
  go_wp2_with fail
  refine (atoi_any s (by omega) _ (hE.below HB1.out)).mono ?_
  rintro e w2 ⟨ev2, rfl, herr2, hb⟩
  rw [← Hv.out]
  have hB2 := HB1.out.trans (hb.mono HB1.out.size)
  clear hb
  simp only [ErrIs] at herr2
  cases hok : atoiOk s.data.toList
  · simp only [hok, Bool.false_eq_true, if_false] at herr2
    obtain ⟨N, rfl⟩ := herr2
    have HOK := Lib.hid hok
    clear hok
    have HB2 := Lib.hid hB2
    clear hB2
    have hnil := nil_ne N
    go_wp2
    all_goals
      go_ret
      exact ⟨ret_bool (by rw [HOK.out]; simp), HB2.out⟩
  · simp only [hok, if_true] at herr2
    subst herr2
    have HOK := Lib.hid hok
    clear hok
    have HB2 := Lib.hid hB2
    clear hB2
    go_wp2
    all_goals
      go_ret
      exact ⟨ret_bool (by rw [HOK.out, ← Hq.out, ← Hv.out]; symm; first | (rw [Bool.and_true, decide_eq_true_eq]; omega) | (rw [Bool.and_true, decide_eq_false_iff_not]; omega)), HB2.out⟩


set_option maxHeartbeats 2000000 in
set_option maxRecDepth 100000 in
theorem check14 (bp o b off cap n : Nat) (s d0 d1 : ByteArray) (w : World) (hE : EnvC w) (hs : s.size ≤ 140737488351232) (hd0 : d0.size ≤ 140737488351232) (hd1 : d1.size ≤ 140737488351232) (hn : 2 ≤ n)
    (c0 : w.cell? ⟨bp, o, none⟩ = some (.int .i16 14)) (c1 : w.cell? ⟨bp, o + 1, none⟩ = some (.slice (some ⟨b, off, none⟩) n cap))
    (c2 : w.cell? ⟨b, off, none⟩ = some (.string d0)) (c3 : w.cell? ⟨b, off + 1, none⟩ = some (.string d1)) :
    Calls Tryz.prog 34 #[.pointer (some ⟨bp, o, none⟩), .string s] w fun e w' => e = .returned (.bool ((decide (atoiVal d0.data.toList ≤ atoiVal s.data.toList) && decide (atoiVal s.data.toList ≤ atoiVal d1.data.toList)) && atoiOk s.data.toList)) ∧ Below w.heap.size w w' := by
  have hb1 := cell_lt c0
  have hb2 := cell_lt c2
  obtain ⟨q, hq⟩ : ∃ q, q = atoiVal d0.data.toList := ⟨_, rfl⟩
  have hq1 : -9223372036854775808 ≤ q := by rw [hq]; exact (atoiVal_bounds _).1
  have hq2 : q ≤ 9223372036854775807 := by rw [hq]; exact (atoiVal_bounds _).2
  have Hq := Lib.hid hq
  clear hq
  obtain ⟨r, hr⟩ : ∃ q, q = atoiVal d1.data.toList := ⟨_, rfl⟩
  have hr1 : -9223372036854775808 ≤ r := by rw [hr]; exact (atoiVal_bounds _).1
  have hr2 : r ≤ 9223372036854775807 := by rw [hr]; exact (atoiVal_bounds _).2
  have Hr := Lib.hid hr
  clear hr
  obtain ⟨v, hv⟩ : ∃ q, q = atoiVal s.data.toList := ⟨_, rfl⟩
  have hv1 : -9223372036854775808 ≤ v := by rw [hv]; exact (atoiVal_bounds _).1
  have hv2 : v ≤ 9223372036854775807 := by rw [hv]; exact (atoiVal_bounds _).2
  have Hv := Lib.hid hv
  clear hv
  have HK := Lib.hid (show ∀ w', Below w.heap.size w w' → w'.cell? ⟨bp, o, none⟩ = w.cell? ⟨bp, o, none⟩ ∧ w'.cell? ⟨bp, o + 1, none⟩ = w.cell? ⟨bp, o + 1, none⟩ ∧ w'.cell? ⟨b, off, none⟩ = w.cell? ⟨b, off, none⟩ ∧ w'.cell? ⟨b, off + 1, none⟩ = w.cell? ⟨b, off + 1, none⟩ from fun w' h => ⟨h.cell (p := ⟨bp, o, none⟩) hb1, h.cell (p := ⟨bp, o + 1, none⟩) hb1, h.cell (p := ⟨b, off, none⟩) hb2, h.cell (p := ⟨b, off + 1, none⟩) hb2⟩)
  go_enter Tryz.func34, Tryz.ntmps34
  go_wp2
  refine wp_loop_rounds 8 ?_
  iterate 8 (rw [rounds_succ]; go_wp2)
  refine wp_loop_rounds 3 ?_
  iterate 2 (rw [rounds_succ]; go_wp2)
  rw [rounds_succ]
  go_wp2_with fail
  refine (atoi_any d0 (by omega) _ (hE.below (below_two _ _ _))).mono ?_
  rintro e w1 ⟨ev, rfl, herr, hb⟩
  rw [← Hq.out]
  have hB1 := (below_two w _ _).trans (hb.mono (Nat.le_trans (below_two w _ _).size (Nat.le_refl _)))
  clear hb
  clear herr
  have c20 := ((HK.out _ hB1).1).trans c0
  have c21 := ((HK.out _ hB1).2.1).trans c1
  have c22 := ((HK.out _ hB1).2.2.1).trans c2
  have c23 := ((HK.out _ hB1).2.2.2).trans c3
  have HB1 := Lib.hid hB1
  clear hB1
  go_wp2_with fail
  refine (atoi_any d1 (by omega) _ (hE.below HB1.out)).mono ?_
  rintro e w2 ⟨ev2, rfl, herr2, hb⟩
  rw [← Hr.out]
  have hB2 := HB1.out.trans (hb.mono HB1.out.size)
  clear hb
  clear herr2
  have c30 := ((HK.out _ hB2).1).trans c0
  have c31 := ((HK.out _ hB2).2.1).trans c1
  have c32 := ((HK.out _ hB2).2.2.1).trans c2
  have HB2 := Lib.hid hB2
  clear hB2
  go_wp2_with fail
  refine (atoi_any s (by omega) _ (hE.below HB2.out)).mono ?_
  rintro e w3 ⟨ev3, rfl, herr3, hb⟩
  rw [← Hv.out]
  have hB3 := HB2.out.trans (hb.mono HB2.out.size)
  clear hb
  simp only [ErrIs] at herr3
  cases hok : atoiOk s.data.toList
  · simp only [hok, Bool.false_eq_true, if_false] at herr3
    obtain ⟨N, rfl⟩ := herr3
    have HOK := Lib.hid hok
    clear hok
    have HB3 := Lib.hid hB3
    clear hB3
    have hnil := nil_ne N
    go_wp2
    all_goals
      go_ret
      exact ⟨ret_bool (by rw [HOK.out]; simp), HB3.out⟩
  · simp only [hok, if_true] at herr3
    subst herr3
    have HOK := Lib.hid hok
    clear hok
    have HB3 := Lib.hid hB3
    clear hB3
    go_wp2
    all_goals
      go_ret
      exact ⟨ret_bool (by rw [HOK.out, ← Hq.out, ← Hr.out, ← Hv.out]; symm; first | (rw [Bool.and_true, Bool.and_eq_true, decide_eq_true_eq, decide_eq_true_eq]; omega) | (rw [Bool.and_true, Bool.and_eq_false_iff, decide_eq_false_iff_not, decide_eq_false_iff_not]; omega)), HB3.out⟩


end Go.Proofs.YtiebedcldbmlhaaGreatDoor
