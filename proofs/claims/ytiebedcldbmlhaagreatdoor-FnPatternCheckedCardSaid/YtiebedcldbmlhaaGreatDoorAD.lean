/-
  The law FnPatternOptional returns true and writes nothing that was there. Conditions: the table that Itoa reads; of a size that addresses allow.
-/
import Derived.Test.YtiebedcldbmlhaaGreatDoorAC
namespace Go.Proofs.YtiebedcldbmlhaaGreatDoor
open Go.RowKit
set_option linter.unusedVariables false

theorem short_three (a b c : ByteArray) (w : World) (v : Bool) (hv : (decide (a.size ≤ 2000) && (decide (b.size ≤ 2000) && decide (c.size ≤ 2000))) = v) : Calls Tryz.prog 22 #[.slice (some ⟨w.heap.size, 0, none⟩) 3 3] (w.alloc (.cells #[.string a, .string b, .string c] 9)) fun e w' => e = .returned (.bool v) ∧ w.alloc (.cells #[.string a, .string b, .string c] 9) = w' :=
  (short_some w.heap.size 0 3 [a, b, c] _ (by simp [maxLen]) (by
    intro i hi
    match i, hi with
    | 0, _ => simp [cell_alloc, objCell]
    | 1, _ => simp [cell_alloc, objCell]
    | 2, _ => simp [cell_alloc, objCell])).mono fun e w' ⟨he, hw⟩ => ⟨by rw [he, ← hv]; simp [shortB], hw⟩
theorem holdsB_no {l : Bs} {c : UInt8} (h : holdsB l c = false) : ∀ y ∈ l, y ≠ c := by
  intro y hy e
  unfold holdsB at h
  rw [List.any_eq_false] at h
  exact h y hy (by simp [e])
theorem opt_60 {h n : Bs} (hw : WordOk h) (hn : WordOk n) : ∀ x ∈ 47 :: (h ++ 47 :: 58 :: (n ++ [63])), x ≠ 60 := by
  intro x hx
  simp only [List.mem_cons, List.mem_append, List.not_mem_nil, or_false] at hx
  rcases hx with rfl | hx | rfl | rfl | hx | rfl
  · decide
  · exact wordB_ne (hw.2 x hx) 60 (by decide)
  · decide
  · decide
  · exact wordB_ne (hn.2 x hx) 60 (by decide)
  · decide

set_option maxHeartbeats 2000000 in
set_option maxRecDepth 100000 in
theorem opt_walk (h n r : ByteArray) (w : World) (hE : EnvZ w) (hs : h.size ≤ 140737488351232) (hn : n.size ≤ 140737488351232) (hr : r.size ≤ 140737488351232) (hs1 : h.size ≤ 2147483647) (hn1 : n.size ≤ 2147483647) (hr1 : r.size ≤ 2147483647) :
    Calls Tryz.prog 4 #[.string h, .string n, .string r] w fun e w' => e = .returned (.bool true) ∧ Below w.heap.size w w' := by
  have hm := matches_any w hE
  have HMA := Lib.hid hm
  have HE := Lib.hid hE
  clear hm hE
  go_enter Tryz.func4, Tryz.ntmps4
  go_wp2_with fail
  refine HMA.out.mono ?_
  rintro e w1 ⟨rfl, hb1⟩
  have HB1 := Lib.hid hb1
  have HE1 := Lib.hid (HE.out.below hb1)
  clear hb1
  go_wp2_with fail
  refine (word_any h w1 hs).mono ?_
  rintro e w1' ⟨rfl, rfl⟩
  cases hw : wordS h.data.toList with
  | false =>
    go_wp2_with fail
    go_ret
    exact ⟨rfl, HB1.out⟩
  | true =>
    have HW := Lib.hid (wordS_ok hw)
    clear hw
    go_wp2_with fail
    refine (word_any n w1 hn).mono ?_
    rintro e w1' ⟨rfl, rfl⟩
    cases hw2 : wordS n.data.toList with
    | false =>
      go_wp2_with fail
      go_ret
      exact ⟨rfl, HB1.out⟩
    | true =>
      have HWN := Lib.hid (wordS_ok hw2)
      clear hw2
      go_wp2_with fail
      refine (holds_any r 47 w1 hr).mono ?_
      rintro e w1' ⟨rfl, rfl⟩
      cases hh : holdsB r.data.toList 47 with
      | true =>
        go_wp2_with fail
        go_ret
        exact ⟨rfl, HB1.out⟩
      | false =>
        have HNO := Lib.hid (holdsB_no hh)
        clear hh
        go_wp2_with fail
        by_cases hsh : h.size ≤ 2000 ∧ n.size ≤ 2000 ∧ r.size ≤ 2000
        · refine (short_three h n r w1 true (by rw [decide_eq_true hsh.1, decide_eq_true hsh.2.1, decide_eq_true hsh.2.2]; rfl)).mono ?_
          rintro e w2 ⟨rfl, rfl⟩
          obtain ⟨W, hWd⟩ : ∃ W, W = w1.alloc (.cells #[.string h, .string n, .string r] 9) := ⟨_, rfl⟩
          have hbW : Below w1.heap.size w1 W := by rw [hWd]; exact (Below.refl _ _).alloc (Nat.le_refl _) _
          rw [← hWd]
          have HBW2 := Lib.hid (HB1.out.trans (hbW.mono HB1.out.size))
          have HEW := Lib.hid (HE1.out.below hbW)
          clear hWd hbW
          obtain ⟨hh1, hh2, hh3⟩ := hsh
          obtain ⟨T, nm, hT, _, hma⟩ := opt_law HW.out HWN.out
          have hsd : (⟨#[47]⟩ ++ h ++ ⟨#[47, 58]⟩ ++ n ++ ⟨#[63]⟩ : ByteArray).data.toList = 47 :: (h.data.toList ++ 47 :: 58 :: (n.data.toList ++ [63])) := by simp
          have hss : (⟨#[47]⟩ ++ h ++ ⟨#[47, 58]⟩ ++ n ++ ⟨#[63]⟩ : ByteArray).size = 1 + h.size + 2 + n.size + 1 := by simp [one_size, show (⟨#[47, 58]⟩ : ByteArray).size = 2 from rfl]
          have hpd : (⟨#[47]⟩ ++ h ++ ⟨#[47]⟩ ++ r : ByteArray).data.toList = 47 :: (h.data.toList ++ 47 :: r.data.toList) := by simp
          have hps : (⟨#[47]⟩ ++ h ++ ⟨#[47]⟩ ++ r : ByteArray).size = 1 + h.size + 1 + r.size := by simp [one_size]
          have hcall := values_any (⟨#[47]⟩ ++ h ++ ⟨#[47, 58]⟩ ++ n ++ ⟨#[63]⟩) (⟨#[47]⟩ ++ h ++ ⟨#[47]⟩ ++ r) false W HEW.out (by omega) (by omega) (by omega) (by rw [hsd]; exact opt_60 HW.out HWN.out) T [nm] (by rw [hsd]; exact hT)
          have hres : mres T false (⟨#[47]⟩ ++ h ++ ⟨#[47]⟩ ++ r : ByteArray).data.toList = some [r.data.toList] := by rw [hpd]; exact hma _ _ HNO.out
          rw [hres] at hcall
          have HC := Lib.hid hcall
          clear hcall hres hsd hss hpd hps hT hma
          go_wp2_with fail
          refine HC.out.mono ?_
          rintro e w3 ⟨v, is, rfl, hb3, hm3⟩
          obtain ⟨rfl, g, cap, rfl, hc⟩ := matched_one hm3
          rw [bs_of] at hc
          have HB3 := Lib.hid (HBW2.out.trans (hb3.mono HBW2.out.size))
          clear hm3 hb3 HC
          go_wp2_with fail
          go_ret
          exact ⟨by simp, HB3.out⟩
        · refine (short_three h n r w1 false (by
            cases h1 : decide (h.size ≤ 2000) <;> cases h2 : decide (n.size ≤ 2000) <;> cases h3 : decide (r.size ≤ 2000) <;> first | rfl | (exfalso; exact hsh ⟨of_decide_eq_true h1, of_decide_eq_true h2, of_decide_eq_true h3⟩))).mono ?_
          rintro e w2 ⟨rfl, rfl⟩
          go_wp2_with fail
          go_ret
          exact ⟨rfl, HB1.out.alloc HB1.out.size _⟩

set_option maxRecDepth 100000 in
theorem opt_big (h n r : ByteArray) (w : World) (hb : 2147483647 < h.size ∨ 2147483647 < n.size ∨ 2147483647 < r.size) :
    Calls Tryz.prog 4 #[.string h, .string n, .string r] w fun e w' => e = .returned (.bool true) ∧ Below w.heap.size w w' := by
  by_cases h1 : 2147483647 < h.size
  · clear hb
    go_enter Tryz.func4, Tryz.ntmps4
    go_wp2_with fail
    go_ret
    exact ⟨rfl, Below.refl _ _⟩
  · by_cases h2 : 2147483647 < n.size
    · clear hb
      go_enter Tryz.func4, Tryz.ntmps4
      go_wp2_with fail
      go_ret
      exact ⟨rfl, Below.refl _ _⟩
    · have h3 : 2147483647 < r.size := by omega
      clear hb
      go_enter Tryz.func4, Tryz.ntmps4
      go_wp2_with fail
      go_ret
      exact ⟨rfl, Below.refl _ _⟩
theorem opt_law_walk (h n r : ByteArray) (w : World) (hE : EnvZ w) (hs : h.size ≤ 140737488351232) (hn : n.size ≤ 140737488351232) (hr : r.size ≤ 140737488351232) :
    Calls Tryz.prog 4 #[.string h, .string n, .string r] w fun e w' => e = .returned (.bool true) ∧ Below w.heap.size w w' := by
  by_cases hb : 2147483647 < h.size ∨ 2147483647 < n.size ∨ 2147483647 < r.size
  · exact opt_big h n r w hb
  · exact opt_walk h n r w hE hs hn hr (by omega) (by omega) (by omega)
end Go.Proofs.YtiebedcldbmlhaaGreatDoor
