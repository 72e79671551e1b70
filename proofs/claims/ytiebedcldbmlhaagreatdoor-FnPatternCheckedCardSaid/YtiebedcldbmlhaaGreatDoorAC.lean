/-
  The laws FnPatternRest and FnPatternOptional return true and write nothing that was there. Conditions: the table that Itoa reads; of a size that addresses allow.
-/
import Derived.Test.YtiebedcldbmlhaaGreatDoorAB
namespace Go.Proofs.YtiebedcldbmlhaaGreatDoor
open Go.RowKit
set_option linter.unusedVariables false

theorem wordS_ok {l : Bs} (h : wordS l = true) : WordOk l := by
  unfold wordS at h
  rw [Bool.and_eq_true, List.all_eq_true] at h
  exact ⟨by rintro rfl; simp at h, h.1⟩
theorem short_two (a b : ByteArray) (w : World) (v : Bool) (hv : (decide (a.size ≤ 2000) && decide (b.size ≤ 2000)) = v) : Calls Tryz.prog 22 #[.slice (some ⟨w.heap.size, 0, none⟩) 2 2] (w.alloc (.cells #[.string a, .string b] 9)) fun e w' => e = .returned (.bool v) ∧ w.alloc (.cells #[.string a, .string b] 9) = w' :=
  (short_some w.heap.size 0 2 [a, b] _ (by simp [maxLen]) (by
    intro i hi
    match i, hi with
    | 0, _ => simp [cell_alloc, objCell]
    | 1, _ => simp [cell_alloc, objCell])).mono fun e w' ⟨he, hw⟩ => ⟨by rw [he, ← hv]; simp [shortB], hw⟩

theorem one_size (c : UInt8) : (⟨#[c]⟩ : ByteArray).size = 1 := rfl
theorem app_data (a b : ByteArray) : (a ++ b).data.toList = a.data.toList ++ b.data.toList := by simp
theorem sign_60 {h : Bs} (hw : WordOk h) (c : UInt8) (hc : c ≠ 60) : ∀ x ∈ 47 :: (h ++ [47, c]), x ≠ 60 := by
  intro x hx
  simp only [List.mem_cons, List.mem_append, List.not_mem_nil, or_false] at hx
  rcases hx with rfl | hx | rfl | rfl
  · decide
  · exact wordB_ne (hw.2 x hx) 60 (by decide)
  · decide
  · exact hc

set_option maxHeartbeats 2000000 in
set_option maxRecDepth 100000 in
theorem rest_walk (h r : ByteArray) (plus : Bool) (w : World) (hE : EnvZ w) (hs : h.size ≤ 140737488351232) (hr : r.size ≤ 140737488351232) (hs1 : h.size ≤ 2147483647) (hr1 : r.size ≤ 2147483647) :
    Calls Tryz.prog 7 #[.string h, .string r, .bool plus] w fun e w' => e = .returned (.bool true) ∧ Below w.heap.size w w' := by
  have hm := matches_any w hE
  have HMA := Lib.hid hm
  have HE := Lib.hid hE
  clear hm hE
  go_enter Tryz.func7, Tryz.ntmps7
  go_wp2_with fail
  refine HMA.out.mono ?_
  rintro e w1 ⟨rfl, hb1⟩
  have HB1 := Lib.hid hb1
  have HE1 := Lib.hid (HE.out.below hb1)
  clear hb1
  go_wp2_with fail
  refine (word_any h w1 hs).mono ?_
  rintro e w1' ⟨rfl, rfl⟩
  cases hw : wordS h.data.toList with
  | false =>
    go_wp2_with fail
    go_ret
    exact ⟨rfl, HB1.out⟩
  | true =>
    have HW := Lib.hid (wordS_ok hw)
    clear hw
    go_wp2_with fail
    by_cases hsh : h.size ≤ 2000 ∧ r.size ≤ 2000
    · refine (short_two h r w1 true (by rw [decide_eq_true hsh.1, decide_eq_true hsh.2]; rfl)).mono ?_
      rintro e w2 ⟨rfl, rfl⟩
      obtain ⟨W, hWd⟩ : ∃ W, W = w1.alloc (.cells #[.string h, .string r] 9) := ⟨_, rfl⟩
      have hbW : Below w1.heap.size w1 W := by rw [hWd]; exact (Below.refl _ _).alloc (Nat.le_refl _) _
      rw [← hWd]
      have HBW := Lib.hid hbW
      clear hWd hbW
      obtain ⟨hh1, hh2⟩ := hsh
      have HEW := Lib.hid (HE1.out.below HBW.out)
      have HBW2 := Lib.hid (HB1.out.trans (HBW.out.mono HB1.out.size))
      have hpd : (⟨#[47]⟩ ++ h ++ ⟨#[47]⟩ ++ r : ByteArray).data.toList = 47 :: (h.data.toList ++ 47 :: r.data.toList) := by simp
      have hps : (⟨#[47]⟩ ++ h ++ ⟨#[47]⟩ ++ r : ByteArray).size = 1 + h.size + 1 + r.size := by simp [one_size]
      have HPD := Lib.hid hpd
      have HPS := Lib.hid hps
      clear hpd hps
      cases plus with
      | false =>
        obtain ⟨T, nm, hT, _, hma⟩ := star_law HW.out
        have hsd : (⟨#[47]⟩ ++ h ++ ⟨#[47]⟩ ++ ⟨#[42]⟩ : ByteArray).data.toList = 47 :: (h.data.toList ++ [47, 42]) := by simp
        have hss : (⟨#[47]⟩ ++ h ++ ⟨#[47]⟩ ++ ⟨#[42]⟩ : ByteArray).size = 1 + h.size + 1 + 1 := by simp [one_size]
        have hcall := values_any (⟨#[47]⟩ ++ h ++ ⟨#[47]⟩ ++ ⟨#[42]⟩) (⟨#[47]⟩ ++ h ++ ⟨#[47]⟩ ++ r) false W HEW.out (by omega) (by omega) (by rw [HPS.out]; omega) (by rw [hsd]; exact sign_60 HW.out 42 (by decide)) T [nm] (by rw [hsd]; exact hT)
        have hres : mres T false (⟨#[47]⟩ ++ h ++ ⟨#[47]⟩ ++ r : ByteArray).data.toList = some [r.data.toList] := by rw [HPD.out]; exact hma _ _
        rw [hres] at hcall
        have HC := Lib.hid hcall
        clear hcall hres hsd hss hT hma
        go_wp2_with fail
        refine HC.out.mono ?_
        rintro e w3 ⟨v, is, rfl, hb3, hm3⟩
        obtain ⟨rfl, g, cap, rfl, hc⟩ := matched_one hm3
        rw [bs_of] at hc
        have HB3 := Lib.hid (HBW2.out.trans (hb3.mono HBW2.out.size))
        clear hm3 hb3 HC
        go_wp2_with fail
        go_ret
        exact ⟨by simp, HB3.out⟩
      | true =>
        obtain ⟨T, nm, hT, _, hma, hmn⟩ := plus_law HW.out
        have hsd : (⟨#[47]⟩ ++ h ++ ⟨#[47]⟩ ++ ⟨#[43]⟩ : ByteArray).data.toList = 47 :: (h.data.toList ++ [47, 43]) := by simp
        have hss : (⟨#[47]⟩ ++ h ++ ⟨#[47]⟩ ++ ⟨#[43]⟩ : ByteArray).size = 1 + h.size + 1 + 1 := by simp [one_size]
        have hcall := values_any (⟨#[47]⟩ ++ h ++ ⟨#[47]⟩ ++ ⟨#[43]⟩) (⟨#[47]⟩ ++ h ++ ⟨#[47]⟩ ++ r) false W HEW.out (by omega) (by omega) (by rw [HPS.out]; omega) (by rw [hsd]; exact sign_60 HW.out 43 (by decide)) T [nm] (by rw [hsd]; exact hT)
        by_cases hr0 : r.data.toList = []
        · have hres : mres T false (⟨#[47]⟩ ++ h ++ ⟨#[47]⟩ ++ r : ByteArray).data.toList = none := by rw [HPD.out, hr0]; exact hmn _
          rw [hres] at hcall
          have hem : r.toList.isEmpty = true := by rw [Lib.toList_data, hr0]; rfl
          have HC := Lib.hid hcall
          clear hcall hres hsd hss hT hma hmn hr0
          go_wp2_with fail
          refine HC.out.mono ?_
          rintro e w3 ⟨v, is, rfl, hb3, hm3⟩
          obtain ⟨rfl, rfl⟩ := matched_none hm3
          have HB3 := Lib.hid (HBW2.out.trans (hb3.mono HBW2.out.size))
          clear hm3 hb3 HC
          go_wp2_with fail
          go_ret
          exact ⟨by simp, HB3.out⟩
        · have hres : mres T false (⟨#[47]⟩ ++ h ++ ⟨#[47]⟩ ++ r : ByteArray).data.toList = some [r.data.toList] := by rw [HPD.out]; exact hma _ _ hr0
          rw [hres] at hcall
          have hem : r.toList.isEmpty = false := by rw [Lib.toList_data, Bool.eq_false_iff]; intro h5; exact hr0 (List.isEmpty_iff.1 h5)
          have HC := Lib.hid hcall
          clear hcall hres hsd hss hT hma hmn hr0
          go_wp2_with fail
          refine HC.out.mono ?_
          rintro e w3 ⟨v, is, rfl, hb3, hm3⟩
          obtain ⟨rfl, g, cap, rfl, hc⟩ := matched_one hm3
          rw [bs_of] at hc
          have HB3 := Lib.hid (HBW2.out.trans (hb3.mono HBW2.out.size))
          clear hm3 hb3 HC
          go_wp2_with fail
          go_ret
          exact ⟨by simp, HB3.out⟩
    · refine (short_two h r w1 false (by
        cases h1 : decide (h.size ≤ 2000) <;> cases h2 : decide (r.size ≤ 2000) <;> first | rfl | (exfalso; exact hsh ⟨of_decide_eq_true h1, of_decide_eq_true h2⟩))).mono ?_
      rintro e w2 ⟨rfl, rfl⟩
      go_wp2_with fail
      go_ret
      exact ⟨rfl, HB1.out.alloc HB1.out.size _⟩

set_option maxRecDepth 100000 in
theorem rest_big (h r : ByteArray) (plus : Bool) (w : World) (hb : 2147483647 < h.size ∨ 2147483647 < r.size) :
    Calls Tryz.prog 7 #[.string h, .string r, .bool plus] w fun e w' => e = .returned (.bool true) ∧ Below w.heap.size w w' := by
  by_cases h1 : 2147483647 < h.size
  · go_enter Tryz.func7, Tryz.ntmps7
    go_wp2_with fail
    go_ret
    exact ⟨rfl, Below.refl _ _⟩
  · have h2 : 2147483647 < r.size := by omega
    clear hb
    go_enter Tryz.func7, Tryz.ntmps7
    go_wp2_with fail
    go_ret
    exact ⟨rfl, Below.refl _ _⟩
theorem rest_law (h r : ByteArray) (plus : Bool) (w : World) (hE : EnvZ w) (hs : h.size ≤ 140737488351232) (hr : r.size ≤ 140737488351232) :
    Calls Tryz.prog 7 #[.string h, .string r, .bool plus] w fun e w' => e = .returned (.bool true) ∧ Below w.heap.size w w' := by
  by_cases hb : 2147483647 < h.size ∨ 2147483647 < r.size
  · exact rest_big h r plus w hb
  · exact rest_walk h r plus w hE hs hr (by omega) (by omega)
end Go.Proofs.YtiebedcldbmlhaaGreatDoor
