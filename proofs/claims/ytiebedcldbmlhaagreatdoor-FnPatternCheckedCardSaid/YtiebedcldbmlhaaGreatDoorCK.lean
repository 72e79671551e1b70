/-
  FnPatternChecked at each of its constraints. Conditions: of a size that addresses allow; what the error variables and the letters' table hold.
-/
import Derived.Test.YtiebedcldbmlhaaGreatDoorCJ
import Derived.Test.YtiebedcldbmlhaaGreatDoorAD
namespace Go.Proofs.YtiebedcldbmlhaaGreatDoor
open Go.RowKit
set_option linter.unusedVariables false

set_option maxHeartbeats 4000000 in
set_option maxRecDepth 100000 in
theorem checked_2 (nm v : ByteArray) (n : Int) (w : World) (hE : EnvC w) (hZ : EnvZ w) (hs : nm.size ≤ 140737488351232) (hv : v.size ≤ 140737488351232) (hs1 : nm.size ≤ 2147483647) (hv1 : v.size ≤ 2147483647) :
    Calls Tryz.prog 8 #[.string nm, .string v, .int .i64 2, .int .i64 n] w fun e w' => e = .returned (.bool true) ∧ Below w.heap.size w w' := by
  have HMA := Lib.hid (matches_any w hZ)
  have HE := Lib.hid hE
  clear hE hZ
  go_enter Tryz.func8, Tryz.ntmps8
  go_wp2_with fail
  refine HMA.out.mono ?_
  rintro e w1 ⟨rfl, hb1⟩
  have HB1 := Lib.hid hb1
  have HE1 := Lib.hid (HE.out.below hb1)
  clear hb1
  go_wp2_with fail
  obtain ⟨c, hcd⟩ : ∃ c, c = w1.heap.size := ⟨_, rfl⟩
  obtain ⟨W, hWd⟩ : ∃ W, W = w1.alloc (Obj.cells #[Value.int IntKind.i64 2, Value.slice none 0 0] 40) := ⟨_, rfl⟩
  have hbW : Below w1.heap.size w1 W := by rw [hWd]; exact (Below.refl _ _).alloc (Nat.le_refl _) _
  have k0 : W.cell? ⟨c, 0, none⟩ = some (.int .i64 2) := by rw [hWd, hcd]; simp [cell_alloc, objCell]
  have k1 : W.cell? ⟨c, 1, none⟩ = some (.slice none 0 0) := by rw [hWd, hcd]; simp [cell_alloc, objCell]
  rw [← hWd, ← hcd]
  have HBW := Lib.hid (HB1.out.trans (hbW.mono HB1.out.size))
  have HEW := Lib.hid (HE1.out.below hbW)
  clear hbW hcd
  clear hWd
  refine (word_any nm W hs).mono ?_
  rintro e w1' ⟨rfl, rfl⟩
  cases hw : wordS nm.data.toList with
  | false =>
    go_wp2_with fail
    go_ret
    exact ⟨rfl, HBW.out⟩
  | true =>
    have HW := Lib.hid (wordS_ok hw)
    clear hw
    by_cases hv0 : v.data.toList = []
    · have hem : v.toList.isEmpty = true := by rw [Lib.toList_data, hv0]; rfl
      clear hv0
      go_wp2_with fail
      go_ret
      exact ⟨rfl, HBW.out⟩
    have hem : v.toList.isEmpty = false := by rw [Lib.toList_data, Bool.eq_false_iff]; intro h5; exact hv0 (List.isEmpty_iff.1 h5)
    have hvp : 0 < v.size := by rw [← size_data]; exact List.length_pos_iff.2 hv0
    clear hv0
    go_wp2_with fail
    refine (holds_any v 47 W hv).mono ?_
    rintro e w2 ⟨rfl, rfl⟩
    cases hh : holdsB v.data.toList 47 with
    | true =>
      go_wp2_with fail
      go_ret
      exact ⟨rfl, HBW.out⟩
    | false =>
      have HV := Lib.hid (holdsB_no hh)
      clear hh
      go_wp2_with fail
      by_cases hsh : nm.size ≤ 2000 ∧ v.size ≤ 2000
      · refine (short_two nm v W true (by rw [decide_eq_true hsh.1, decide_eq_true hsh.2]; rfl)).mono ?_
        rintro e w3 ⟨rfl, rfl⟩
        obtain ⟨hh1, hh2⟩ := hsh
        obtain ⟨W2, hW2⟩ : ∃ W2, W2 = W.alloc (.cells #[.string nm, .string v] 9) := ⟨_, rfl⟩
        have hb2 : Below W.heap.size W W2 := by rw [hW2]; exact (Below.refl _ _).alloc (Nat.le_refl _) _
        rw [← hW2]
        have HB2 := Lib.hid hb2
        clear hW2 hb2
        have HEW2 := Lib.hid (HEW.out.below HB2.out)
        obtain ⟨pt, hpt⟩ : ∃ pt, pt = (⟨#[47, 58]⟩ ++ nm ++ ⟨#[60]⟩ ++ ⟨#[105, 110, 116]⟩ ++ ⟨#[62]⟩ : ByteArray) := ⟨_, rfl⟩
        have hpd : pt.data.toList = 47 :: conText nm.data.toList ([105, 110, 116]) := by rw [hpt]; simp [conText]
        have hvd : (⟨#[47]⟩ ++ v : ByteArray).data.toList = 47 :: v.data.toList := by simp
        have hpsz : pt.size ≤ 1000000 := by
          rw [← size_data, hpd, List.length_cons, conText_len, size_data]
          have h1 : ([105, 110, 116] : Bs).length ≤ 200 := by decide
          omega
        have hpat : ConPat pt nm.data.toList (⟨2, []⟩) := conPat_of hpd hpsz HW.out.1 HW.out.2 (by decide) (one_int)
        obtain ⟨X, hX⟩ : ∃ X, X = ansK 2 0 v := ⟨_, rfl⟩
        have hcall := values_con pt (⟨#[47]⟩ ++ v) v nm.data.toList (⟨2, []⟩) X W2 HEW2.out hpat hvp (by omega) hvd HV.out (by rw [hX]; exact ok2 v hv)
        have HX := Lib.hid hX
        have HC := Lib.hid hcall
        have HPT := Lib.hid hpt
        clear hcall hpd hvd hpsz hpat hX hpt
        go_wp2_with fail
        rw [← HPT.out]
        refine HC.out.mono ?_
        rintro e w4 ⟨vv, is, rfl, hb4, hm4⟩
        have k04 := (hb4.cell (p := ⟨c, 0, none⟩) (cell_lt ((HB2.out.cell (p := ⟨c, 0, none⟩) (cell_lt k0)).trans k0))).trans ((HB2.out.cell (p := ⟨c, 0, none⟩) (cell_lt k0)).trans k0)
        have k14 := (hb4.cell (p := ⟨c, 1, none⟩) (cell_lt ((HB2.out.cell (p := ⟨c, 1, none⟩) (cell_lt k1)).trans k1))).trans ((HB2.out.cell (p := ⟨c, 1, none⟩) (cell_lt k1)).trans k1)
        have HB4 := Lib.hid (HB2.out.trans (hb4.mono HB2.out.size))
        have HEW4 := Lib.hid (HEW2.out.below hb4)
        have hful := ful2 v w4 HEW4.out hv
        rw [← HX.out] at hful
        have HF := Lib.hid hful
        have HM := Lib.hid hm4
        clear hm4 hb4 HC hful k0 k1
        cases X with
        | false =>
          obtain ⟨rfl, rfl⟩ := matched_none HM.out
          go_wp2_with fail
          refine HF.out.mono ?_
          rintro e w5 ⟨rfl, hb5⟩
          have HB5 := Lib.hid (HBW.out.trans ((HB4.out.trans (hb5.mono HB4.out.size)).mono HBW.out.size))
          clear hb5
          go_wp2_with fail
          go_ret
          exact ⟨by simp, HB5.out⟩
        | true =>
          obtain ⟨rfl, g, cap, rfl, hc⟩ := matched_one HM.out
          rw [bs_of] at hc
          go_wp2_with fail
          refine HF.out.mono ?_
          rintro e w5 ⟨rfl, hb5⟩
          have hc5 := (hb5.cell (p := ⟨g, 0, none⟩) (cell_lt hc)).trans hc
          have HB5 := Lib.hid (HBW.out.trans ((HB4.out.trans (hb5.mono HB4.out.size)).mono HBW.out.size))
          clear hb5
          go_wp2_with fail
          go_ret
          exact ⟨by simp, HB5.out⟩
      · refine (short_two nm v W false (by
          cases h1 : decide (nm.size ≤ 2000) <;> cases h2 : decide (v.size ≤ 2000) <;> first | rfl | (exfalso; exact hsh ⟨of_decide_eq_true h1, of_decide_eq_true h2⟩))).mono ?_
        rintro e w3 ⟨rfl, rfl⟩
        go_wp2_with fail
        go_ret
        exact ⟨rfl, HBW.out.alloc HBW.out.size _⟩

set_option maxHeartbeats 4000000 in
set_option maxRecDepth 100000 in
theorem checked_3 (nm v : ByteArray) (n : Int) (w : World) (hE : EnvC w) (hZ : EnvZ w) (hs : nm.size ≤ 140737488351232) (hv : v.size ≤ 140737488351232) (hs1 : nm.size ≤ 2147483647) (hv1 : v.size ≤ 2147483647) :
    Calls Tryz.prog 8 #[.string nm, .string v, .int .i64 3, .int .i64 n] w fun e w' => e = .returned (.bool true) ∧ Below w.heap.size w w' := by
  have HMA := Lib.hid (matches_any w hZ)
  have HE := Lib.hid hE
  clear hE hZ
  go_enter Tryz.func8, Tryz.ntmps8
  go_wp2_with fail
  refine HMA.out.mono ?_
  rintro e w1 ⟨rfl, hb1⟩
  have HB1 := Lib.hid hb1
  have HE1 := Lib.hid (HE.out.below hb1)
  clear hb1
  go_wp2_with fail
  obtain ⟨c, hcd⟩ : ∃ c, c = w1.heap.size := ⟨_, rfl⟩
  obtain ⟨W, hWd⟩ : ∃ W, W = w1.alloc (Obj.cells #[Value.int IntKind.i64 3, Value.slice none 0 0] 40) := ⟨_, rfl⟩
  have hbW : Below w1.heap.size w1 W := by rw [hWd]; exact (Below.refl _ _).alloc (Nat.le_refl _) _
  have k0 : W.cell? ⟨c, 0, none⟩ = some (.int .i64 3) := by rw [hWd, hcd]; simp [cell_alloc, objCell]
  have k1 : W.cell? ⟨c, 1, none⟩ = some (.slice none 0 0) := by rw [hWd, hcd]; simp [cell_alloc, objCell]
  rw [← hWd, ← hcd]
  have HBW := Lib.hid (HB1.out.trans (hbW.mono HB1.out.size))
  have HEW := Lib.hid (HE1.out.below hbW)
  clear hbW hcd
  clear hWd
  refine (word_any nm W hs).mono ?_
  rintro e w1' ⟨rfl, rfl⟩
  cases hw : wordS nm.data.toList with
  | false =>
    go_wp2_with fail
    go_ret
    exact ⟨rfl, HBW.out⟩
  | true =>
    have HW := Lib.hid (wordS_ok hw)
    clear hw
    by_cases hv0 : v.data.toList = []
    · have hem : v.toList.isEmpty = true := by rw [Lib.toList_data, hv0]; rfl
      clear hv0
      go_wp2_with fail
      go_ret
      exact ⟨rfl, HBW.out⟩
    have hem : v.toList.isEmpty = false := by rw [Lib.toList_data, Bool.eq_false_iff]; intro h5; exact hv0 (List.isEmpty_iff.1 h5)
    have hvp : 0 < v.size := by rw [← size_data]; exact List.length_pos_iff.2 hv0
    clear hv0
    go_wp2_with fail
    refine (holds_any v 47 W hv).mono ?_
    rintro e w2 ⟨rfl, rfl⟩
    cases hh : holdsB v.data.toList 47 with
    | true =>
      go_wp2_with fail
      go_ret
      exact ⟨rfl, HBW.out⟩
    | false =>
      have HV := Lib.hid (holdsB_no hh)
      clear hh
      go_wp2_with fail
      by_cases hsh : nm.size ≤ 2000 ∧ v.size ≤ 2000
      · refine (short_two nm v W true (by rw [decide_eq_true hsh.1, decide_eq_true hsh.2]; rfl)).mono ?_
        rintro e w3 ⟨rfl, rfl⟩
        obtain ⟨hh1, hh2⟩ := hsh
        obtain ⟨W2, hW2⟩ : ∃ W2, W2 = W.alloc (.cells #[.string nm, .string v] 9) := ⟨_, rfl⟩
        have hb2 : Below W.heap.size W W2 := by rw [hW2]; exact (Below.refl _ _).alloc (Nat.le_refl _) _
        rw [← hW2]
        have HB2 := Lib.hid hb2
        clear hW2 hb2
        have HEW2 := Lib.hid (HEW.out.below HB2.out)
        obtain ⟨pt, hpt⟩ : ∃ pt, pt = (⟨#[47, 58]⟩ ++ nm ++ ⟨#[60]⟩ ++ ⟨#[98, 111, 111, 108]⟩ ++ ⟨#[62]⟩ : ByteArray) := ⟨_, rfl⟩
        have hpd : pt.data.toList = 47 :: conText nm.data.toList ([98, 111, 111, 108]) := by rw [hpt]; simp [conText]
        have hvd : (⟨#[47]⟩ ++ v : ByteArray).data.toList = 47 :: v.data.toList := by simp
        have hpsz : pt.size ≤ 1000000 := by
          rw [← size_data, hpd, List.length_cons, conText_len, size_data]
          have h1 : ([98, 111, 111, 108] : Bs).length ≤ 200 := by decide
          omega
        have hpat : ConPat pt nm.data.toList (⟨3, []⟩) := conPat_of hpd hpsz HW.out.1 HW.out.2 (by decide) (one_bool)
        obtain ⟨X, hX⟩ : ∃ X, X = ansK 3 0 v := ⟨_, rfl⟩
        have hcall := values_con pt (⟨#[47]⟩ ++ v) v nm.data.toList (⟨3, []⟩) X W2 HEW2.out hpat hvp (by omega) hvd HV.out (by rw [hX]; exact ok3 v hv)
        have HX := Lib.hid hX
        have HC := Lib.hid hcall
        have HPT := Lib.hid hpt
        clear hcall hpd hvd hpsz hpat hX hpt
        go_wp2_with fail
        rw [← HPT.out]
        refine HC.out.mono ?_
        rintro e w4 ⟨vv, is, rfl, hb4, hm4⟩
        have k04 := (hb4.cell (p := ⟨c, 0, none⟩) (cell_lt ((HB2.out.cell (p := ⟨c, 0, none⟩) (cell_lt k0)).trans k0))).trans ((HB2.out.cell (p := ⟨c, 0, none⟩) (cell_lt k0)).trans k0)
        have k14 := (hb4.cell (p := ⟨c, 1, none⟩) (cell_lt ((HB2.out.cell (p := ⟨c, 1, none⟩) (cell_lt k1)).trans k1))).trans ((HB2.out.cell (p := ⟨c, 1, none⟩) (cell_lt k1)).trans k1)
        have HB4 := Lib.hid (HB2.out.trans (hb4.mono HB2.out.size))
        have HEW4 := Lib.hid (HEW2.out.below hb4)
        have hful := ful3 v w4 HEW4.out hv
        rw [← HX.out] at hful
        have HF := Lib.hid hful
        have HM := Lib.hid hm4
        clear hm4 hb4 HC hful k0 k1
        cases X with
        | false =>
          obtain ⟨rfl, rfl⟩ := matched_none HM.out
          go_wp2_with fail
          refine HF.out.mono ?_
          rintro e w5 ⟨rfl, hb5⟩
          have HB5 := Lib.hid (HBW.out.trans ((HB4.out.trans (hb5.mono HB4.out.size)).mono HBW.out.size))
          clear hb5
          go_wp2_with fail
          go_ret
          exact ⟨by simp, HB5.out⟩
        | true =>
          obtain ⟨rfl, g, cap, rfl, hc⟩ := matched_one HM.out
          rw [bs_of] at hc
          go_wp2_with fail
          refine HF.out.mono ?_
          rintro e w5 ⟨rfl, hb5⟩
          have hc5 := (hb5.cell (p := ⟨g, 0, none⟩) (cell_lt hc)).trans hc
          have HB5 := Lib.hid (HBW.out.trans ((HB4.out.trans (hb5.mono HB4.out.size)).mono HBW.out.size))
          clear hb5
          go_wp2_with fail
          go_ret
          exact ⟨by simp, HB5.out⟩
      · refine (short_two nm v W false (by
          cases h1 : decide (nm.size ≤ 2000) <;> cases h2 : decide (v.size ≤ 2000) <;> first | rfl | (exfalso; exact hsh ⟨of_decide_eq_true h1, of_decide_eq_true h2⟩))).mono ?_
        rintro e w3 ⟨rfl, rfl⟩
        go_wp2_with fail
        go_ret
        exact ⟨rfl, HBW.out.alloc HBW.out.size _⟩

set_option maxHeartbeats 4000000 in
set_option maxRecDepth 100000 in
theorem checked_5 (nm v : ByteArray) (n : Int) (w : World) (hE : EnvC w) (hZ : EnvZ w) (hs : nm.size ≤ 140737488351232) (hv : v.size ≤ 140737488351232) (hs1 : nm.size ≤ 2147483647) (hv1 : v.size ≤ 2147483647) :
    Calls Tryz.prog 8 #[.string nm, .string v, .int .i64 5, .int .i64 n] w fun e w' => e = .returned (.bool true) ∧ Below w.heap.size w w' := by
  have HMA := Lib.hid (matches_any w hZ)
  have HE := Lib.hid hE
  clear hE hZ
  go_enter Tryz.func8, Tryz.ntmps8
  go_wp2_with fail
  refine HMA.out.mono ?_
  rintro e w1 ⟨rfl, hb1⟩
  have HB1 := Lib.hid hb1
  have HE1 := Lib.hid (HE.out.below hb1)
  clear hb1
  go_wp2_with fail
  obtain ⟨c, hcd⟩ : ∃ c, c = w1.heap.size := ⟨_, rfl⟩
  obtain ⟨W, hWd⟩ : ∃ W, W = w1.alloc (Obj.cells #[Value.int IntKind.i64 5, Value.slice none 0 0] 40) := ⟨_, rfl⟩
  have hbW : Below w1.heap.size w1 W := by rw [hWd]; exact (Below.refl _ _).alloc (Nat.le_refl _) _
  have k0 : W.cell? ⟨c, 0, none⟩ = some (.int .i64 5) := by rw [hWd, hcd]; simp [cell_alloc, objCell]
  have k1 : W.cell? ⟨c, 1, none⟩ = some (.slice none 0 0) := by rw [hWd, hcd]; simp [cell_alloc, objCell]
  rw [← hWd, ← hcd]
  have HBW := Lib.hid (HB1.out.trans (hbW.mono HB1.out.size))
  have HEW := Lib.hid (HE1.out.below hbW)
  clear hbW hcd
  clear hWd
  refine (word_any nm W hs).mono ?_
  rintro e w1' ⟨rfl, rfl⟩
  cases hw : wordS nm.data.toList with
  | false =>
    go_wp2_with fail
    go_ret
    exact ⟨rfl, HBW.out⟩
  | true =>
    have HW := Lib.hid (wordS_ok hw)
    clear hw
    by_cases hv0 : v.data.toList = []
    · have hem : v.toList.isEmpty = true := by rw [Lib.toList_data, hv0]; rfl
      clear hv0
      go_wp2_with fail
      go_ret
      exact ⟨rfl, HBW.out⟩
    have hem : v.toList.isEmpty = false := by rw [Lib.toList_data, Bool.eq_false_iff]; intro h5; exact hv0 (List.isEmpty_iff.1 h5)
    have hvp : 0 < v.size := by rw [← size_data]; exact List.length_pos_iff.2 hv0
    clear hv0
    go_wp2_with fail
    refine (holds_any v 47 W hv).mono ?_
    rintro e w2 ⟨rfl, rfl⟩
    cases hh : holdsB v.data.toList 47 with
    | true =>
      go_wp2_with fail
      go_ret
      exact ⟨rfl, HBW.out⟩
    | false =>
      have HV := Lib.hid (holdsB_no hh)
      clear hh
      go_wp2_with fail
      by_cases hsh : nm.size ≤ 2000 ∧ v.size ≤ 2000
      · refine (short_two nm v W true (by rw [decide_eq_true hsh.1, decide_eq_true hsh.2]; rfl)).mono ?_
        rintro e w3 ⟨rfl, rfl⟩
        obtain ⟨hh1, hh2⟩ := hsh
        obtain ⟨W2, hW2⟩ : ∃ W2, W2 = W.alloc (.cells #[.string nm, .string v] 9) := ⟨_, rfl⟩
        have hb2 : Below W.heap.size W W2 := by rw [hW2]; exact (Below.refl _ _).alloc (Nat.le_refl _) _
        rw [← hW2]
        have HB2 := Lib.hid hb2
        clear hW2 hb2
        have HEW2 := Lib.hid (HEW.out.below HB2.out)
        obtain ⟨pt, hpt⟩ : ∃ pt, pt = (⟨#[47, 58]⟩ ++ nm ++ ⟨#[60]⟩ ++ ⟨#[97, 108, 112, 104, 97]⟩ ++ ⟨#[62]⟩ : ByteArray) := ⟨_, rfl⟩
        have hpd : pt.data.toList = 47 :: conText nm.data.toList ([97, 108, 112, 104, 97]) := by rw [hpt]; simp [conText]
        have hvd : (⟨#[47]⟩ ++ v : ByteArray).data.toList = 47 :: v.data.toList := by simp
        have hpsz : pt.size ≤ 1000000 := by
          rw [← size_data, hpd, List.length_cons, conText_len, size_data]
          have h1 : ([97, 108, 112, 104, 97] : Bs).length ≤ 200 := by decide
          omega
        have hpat : ConPat pt nm.data.toList (⟨5, []⟩) := conPat_of hpd hpsz HW.out.1 HW.out.2 (by decide) (one_alpha)
        obtain ⟨X, hX⟩ : ∃ X, X = ansK 5 0 v := ⟨_, rfl⟩
        have hcall := values_con pt (⟨#[47]⟩ ++ v) v nm.data.toList (⟨5, []⟩) X W2 HEW2.out hpat hvp (by omega) hvd HV.out (by rw [hX]; exact ok5 v hv)
        have HX := Lib.hid hX
        have HC := Lib.hid hcall
        have HPT := Lib.hid hpt
        clear hcall hpd hvd hpsz hpat hX hpt
        go_wp2_with fail
        rw [← HPT.out]
        refine HC.out.mono ?_
        rintro e w4 ⟨vv, is, rfl, hb4, hm4⟩
        have k04 := (hb4.cell (p := ⟨c, 0, none⟩) (cell_lt ((HB2.out.cell (p := ⟨c, 0, none⟩) (cell_lt k0)).trans k0))).trans ((HB2.out.cell (p := ⟨c, 0, none⟩) (cell_lt k0)).trans k0)
        have k14 := (hb4.cell (p := ⟨c, 1, none⟩) (cell_lt ((HB2.out.cell (p := ⟨c, 1, none⟩) (cell_lt k1)).trans k1))).trans ((HB2.out.cell (p := ⟨c, 1, none⟩) (cell_lt k1)).trans k1)
        have HB4 := Lib.hid (HB2.out.trans (hb4.mono HB2.out.size))
        have HEW4 := Lib.hid (HEW2.out.below hb4)
        have hful := ful5 v w4 HEW4.out hv
        rw [← HX.out] at hful
        have HF := Lib.hid hful
        have HM := Lib.hid hm4
        clear hm4 hb4 HC hful k0 k1
        cases X with
        | false =>
          obtain ⟨rfl, rfl⟩ := matched_none HM.out
          go_wp2_with fail
          refine HF.out.mono ?_
          rintro e w5 ⟨rfl, hb5⟩
          have HB5 := Lib.hid (HBW.out.trans ((HB4.out.trans (hb5.mono HB4.out.size)).mono HBW.out.size))
          clear hb5
          go_wp2_with fail
          go_ret
          exact ⟨by simp, HB5.out⟩
        | true =>
          obtain ⟨rfl, g, cap, rfl, hc⟩ := matched_one HM.out
          rw [bs_of] at hc
          go_wp2_with fail
          refine HF.out.mono ?_
          rintro e w5 ⟨rfl, hb5⟩
          have hc5 := (hb5.cell (p := ⟨g, 0, none⟩) (cell_lt hc)).trans hc
          have HB5 := Lib.hid (HBW.out.trans ((HB4.out.trans (hb5.mono HB4.out.size)).mono HBW.out.size))
          clear hb5
          go_wp2_with fail
          go_ret
          exact ⟨by simp, HB5.out⟩
      · refine (short_two nm v W false (by
          cases h1 : decide (nm.size ≤ 2000) <;> cases h2 : decide (v.size ≤ 2000) <;> first | rfl | (exfalso; exact hsh ⟨of_decide_eq_true h1, of_decide_eq_true h2⟩))).mono ?_
        rintro e w3 ⟨rfl, rfl⟩
        go_wp2_with fail
        go_ret
        exact ⟨rfl, HBW.out.alloc HBW.out.size _⟩

end Go.Proofs.YtiebedcldbmlhaaGreatDoor
