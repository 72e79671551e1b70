/-
  The law FnPatternOther returns true and writes nothing that was there. Conditions: the table that Itoa reads; of a size that addresses allow.
-/
import Derived.Test.YtiebedcldbmlhaaGreatDoorAG
namespace Go.Proofs.YtiebedcldbmlhaaGreatDoor
open Go.RowKit
set_option linter.unusedVariables false

theorem ends_some (s t : ByteArray) (w : World) (hs : s.size ≤ 140737488351232) (ht : t.size ≤ 140737488351232) :
    Calls Tryz.prog 23 #[.string s, .string t] w fun e w' => (∃ x : Bool, e = .returned (.bool x)) ∧ w = w' := by
  go_enter Tryz.func23, Tryz.ntmps23
  by_cases h : t.size ≤ s.size
  · have hd : decide ((t.size : Int) ≤ (s.size : Int)) = true := decide_eq_true (by omega)
    have e1 : IntKind.i64.wrap ((s.size : Int) - (t.size : Int)) = (s.size : Int) - (t.size : Int) := IntWalk.i64_in _ (by omega)
    have e2 : (0 : Int) ≤ (s.size : Int) - (t.size : Int) := by omega
    have e3 : (s.size : Int) - (t.size : Int) ≤ (s.size : Int) := by omega
    go_wp2
    go_ret
    exact ⟨⟨_, rfl⟩, rfl⟩
  · go_wp2
    go_ret
    exact ⟨⟨_, rfl⟩, rfl⟩
theorem begins_some (s t : ByteArray) (w : World) (hs : s.size ≤ 140737488351232) (ht : t.size ≤ 140737488351232) :
    Calls Tryz.prog 24 #[.string s, .string t] w fun e w' => (∃ x : Bool, e = .returned (.bool x)) ∧ w = w' := by
  go_enter Tryz.func24, Tryz.ntmps24
  by_cases h : t.size ≤ s.size
  · have hd : decide ((t.size : Int) ≤ (s.size : Int)) = true := decide_eq_true (by omega)
    have e3 : (t.size : Int) ≤ (s.size : Int) := by omega
    go_wp2
    go_ret
    exact ⟨⟨_, rfl⟩, rfl⟩
  · go_wp2
    go_ret
    exact ⟨⟨_, rfl⟩, rfl⟩
theorem short_one (s : ByteArray) (w : World) : Calls Tryz.prog 22 #[.slice (some ⟨w.heap.size, 0, none⟩) 1 1] (w.alloc (.cells #[.string s] 9)) fun e w' => e = .returned (.bool (decide (s.size ≤ 2000))) ∧ w.alloc (.cells #[.string s] 9) = w' :=
  (short_some w.heap.size 0 1 [s] _ (by simp [maxLen]) (by
    intro i hi
    match i, hi with
    | 0, _ => simp [cell_alloc, objCell])).mono fun e w' ⟨he, hw⟩ => ⟨by rw [he]; simp [shortB], hw⟩

set_option maxHeartbeats 2000000 in
set_option maxRecDepth 100000 in
theorem other_walk (a0 : Option Addr) (c0 : Nat) (ps : List ByteArray) (p : ByteArray) (w : World) (hE : EnvZ w) (hl0 : ps.length ≤ maxLen) (hps : p.size ≤ 140737488351232) (h0 : TextsAt w a0 ps) :
    Calls Tryz.prog 5 #[.slice a0 ps.length c0, .string p] w fun e w' => e = .returned (.bool true) ∧ Below w.heap.size w w' := by
  have HF0 := Lib.hid (fits_any a0 c0 ps w hl0 h0)
  have HMA := Lib.hid (matches_any w hE)
  have HE := Lib.hid hE
  have H0 := Lib.hid h0
  have HL0 := Lib.hid hl0
  unfold maxLen at hl0
  clear hE h0
  go_enter Tryz.func5, Tryz.ntmps5
  go_wp2_with fail
  refine HF0.out.mono ?_
  rintro e w0 ⟨rfl, rfl⟩
  cases hf0 : fitsB ps with
  | false =>
    go_wp2_with fail
    go_ret
    exact ⟨rfl, Below.refl _ _⟩
  | true =>
    have HB0 := Lib.hid (fitsB_yes hf0)
    clear hf0
    by_cases hkb : 2147483647 < p.size
    · go_wp2_with fail
      go_ret
      exact ⟨rfl, Below.refl _ _⟩
    · have hkl : p.size ≤ 2147483647 := by omega
      clear hkb
      go_wp2_with fail
      refine HMA.out.mono ?_
      rintro e w1 ⟨rfl, hb1⟩
      have t0 := H0.out.below hb1
      have HE1 := Lib.hid (HE.out.below hb1)
      have HW1 := Lib.hid hb1
      have HPL := Lib.hid (plain_any a0 none c0 0 ps [] w1 HL0.out (by simp [maxLen]) t0 (.inl rfl) (fun s hs => by have := HB0.out.2 s hs; omega) (fun s hs => by simp at hs))
      have T0 := Lib.hid t0
      clear hb1 t0
      go_wp2_with fail
      refine HPL.out.mono ?_
      rintro e w1' ⟨rfl, rfl⟩
      cases hpl : plainB ps [] with
      | false =>
        go_wp2_with fail
        go_ret
        exact ⟨rfl, HW1.out⟩
      | true =>
        have hok := plainB_yes hpl
        have HOK := Lib.hid hok
        clear hpl hok
        go_wp2_with fail
        refine (short_one p w1).mono ?_
        rintro e w2 ⟨rfl, rfl⟩
        obtain ⟨W, hWd⟩ : ∃ W, W = w1.alloc (.cells #[.string p] 9) := ⟨_, rfl⟩
        have hbW : Below w1.heap.size w1 W := by rw [hWd]; exact (Below.refl _ _).alloc (Nat.le_refl _) _
        rw [← hWd]
        have HW2 := Lib.hid (HW1.out.trans (hbW.mono HW1.out.size))
        have HEW := Lib.hid (HE1.out.below hbW)
        have TW := Lib.hid (T0.out.below hbW)
        clear hWd hbW
        by_cases hsh : p.size ≤ 2000
        · rw [decide_eq_true hsh]
          go_wp2_with fail
          refine (ends_some p ⟨#[47]⟩ W hps (by decide)).mono ?_
          rintro e w2 ⟨⟨x1, rfl⟩, rfl⟩
          cases x1 with
          | true =>
            go_wp2_with fail
            go_ret
            exact ⟨rfl, HW2.out⟩
          | false =>
            go_wp2_with fail
            refine (begins_some p ⟨#[47]⟩ W hps (by decide)).mono ?_
            rintro e w2 ⟨⟨x2, rfl⟩, rfl⟩
            cases x2 with
            | false =>
              go_wp2_with fail
              go_ret
              exact ⟨rfl, HW2.out⟩
            | true =>
              have HPA := Lib.hid (pattern_any a0 none none c0 0 0 ps [] [] W (by have := HOK.out.few; omega) (Nat.zero_le _) (Nat.zero_le _) TW.out (.inl rfl) (.inl rfl) HOK.out.psz (fun s hs => by simp at hs) (fun i => by show (0 : Nat) < 256; omega))
              go_wp2_with fail
              refine HPA.out.mono ?_
              rintro e w3 ⟨v, rfl, hown, hb3⟩
              obtain ⟨T, hS, hval⟩ := values_pts ps [] [] HOK.out p w3 (HEW.out.below hb3) (by omega)
              have hcst : ∀ x ∈ ptsTo ps [] [] ps.length, x.2 = none := by
                intro x hx
                unfold ptsTo at hx
                obtain ⟨i, hi, rfl⟩ := List.mem_map.1 hx
                simp [itemAt, isVal]
              have hne : ptsTo ps [] [] ps.length ≠ [] := by intro e; have := congrArg List.length e; rw [pts_len] at this; have h5 := HOK.out.some; exact absurd this (by show ps.length ≠ 0; omega)
              have hres := other_pts chk0 (ptsTo ps [] [] ps.length) hne hcst T p.data.toList hS
              have hres' : mres T false p.data.toList = if p.data.toList = patOf (ptsTo ps [] [] ps.length) then some [] else none := hres
              rw [hres'] at hval
              have HW3 := Lib.hid (HW2.out.trans (hb3.mono HW2.out.size))
              obtain ⟨ao, cap, rfl⟩ := own_form hown
              by_cases heq : p.data.toList = patOf (ptsTo ps [] [] ps.length)
              · rw [if_pos heq] at hval
                have HVAL := Lib.hid hval
                have hq : ((bs (patOf (ptsTo ps [] [] ps.length))).toList == p.toList) = true := (str_iff _ _).2 (by rw [bs_data]; exact heq.symm)
                have hq2 : (patOf (ptsTo ps [] [] ps.length) == p.toList) = true := by rw [Lib.toList_data, beq_iff_eq]; exact heq.symm
                clear hval hown hb3 hres hres' hS hcst hne heq
                go_wp2_with fail
                refine HVAL.out.mono ?_
                rintro e w4 ⟨v2, is, rfl, hb4, hm4⟩
                obtain ⟨rfl, hown4⟩ := hm4
                have HW4 := Lib.hid (HW3.out.trans (hb4.mono HW3.out.size))
                clear hb4 hown4
                go_wp2_with fail
                go_ret
                exact ⟨rfl, HW4.out⟩
              · rw [if_neg heq] at hval
                have HVAL := Lib.hid hval
                have hq : ((bs (patOf (ptsTo ps [] [] ps.length))).toList == p.toList) = false := by
                  rw [Bool.eq_false_iff]
                  intro h5
                  have h6 := (str_iff _ _).1 h5
                  rw [bs_data] at h6
                  exact heq h6.symm
                have hq2 : (patOf (ptsTo ps [] [] ps.length) == p.toList) = false := by rw [Lib.toList_data, beq_eq_false_iff_ne]; exact fun e => heq e.symm
                clear hval hown hb3 hres hres' hS hcst hne heq
                go_wp2_with fail
                refine HVAL.out.mono ?_
                rintro e w4 ⟨v2, is, rfl, hb4, hm4⟩
                obtain ⟨rfl, rfl⟩ := matched_none hm4
                have HW4 := Lib.hid (HW3.out.trans (hb4.mono HW3.out.size))
                clear hb4 hm4
                go_wp2_with fail
                go_ret
                exact ⟨rfl, HW4.out⟩
        · rw [decide_eq_false hsh]
          go_wp2_with fail
          go_ret
          exact ⟨rfl, HW2.out⟩
end Go.Proofs.YtiebedcldbmlhaaGreatDoor
