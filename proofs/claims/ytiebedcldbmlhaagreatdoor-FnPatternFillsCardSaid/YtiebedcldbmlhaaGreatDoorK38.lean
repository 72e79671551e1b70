/-
  Joined: The law FnPatternPart returns true and writes nothing that was there; The law FnPatternPart at a world that is laid as the row lists it.
  Conditions: each law's own.
-/
import Derived.Test.YtiebedcldbmlhaaGreatDoorK36
import Derived.Test.YtiebedcldbmlhaaGreatDoorK37
namespace Go.Proofs.YtiebedcldbmlhaaGreatDoor
open Go.RowKit
set_option linter.unusedVariables false

theorem short_pair (a b : ByteArray) (w : World) (v : Bool) (hv : (decide (a.size ≤ 2000) && decide (b.size ≤ 2000)) = v) : Calls Tryz.prog 22 #[.slice (some ⟨w.heap.size, 0, none⟩) 2 2] (w.alloc (.cells #[.string a, .string b] 9)) fun e w' => e = .returned (.bool v) ∧ w.alloc (.cells #[.string a, .string b] 9) = w' :=
  (short_some w.heap.size 0 2 [a, b] _ (by simp [maxLen]) (by
    intro i hi
    match i, hi with
    | 0, _ => simp [cell_alloc, objCell]
    | 1, _ => simp [cell_alloc, objCell])).mono fun e w' ⟨he, hw⟩ => ⟨by rw [he, ← hv]; simp [shortB], hw⟩
theorem matches_parse : ∃ N, parse (⟨#[47, 97, 47, 58, 98]⟩ : ByteArray).data.toList = some (
    [{ const := [47, 97, 47], isParam := false, name := [], cmp := [], partCount := 0, greedy := false, optional := false, last := false, optSlash := false, cons := [], length := 3 },
     { const := [], isParam := true, name := [98], cmp := [], partCount := 0, greedy := false, optional := false, last := true, optSlash := false, cons := [], length := 0 }], N) := ⟨[[98]], by decide +kernel⟩
theorem matches_val (K : Con → Bs → Bool) : matchGo K false
    [{ const := [47, 97, 47], isParam := false, name := [], cmp := [], partCount := 0, greedy := false, optional := false, last := false, optSlash := false, cons := [], length := 3 },
     { const := [], isParam := true, name := [98], cmp := [], partCount := 0, greedy := false, optional := false, last := true, optSlash := false, cons := [], length := 0 }] (⟨#[47, 97, 47, 99]⟩ : ByteArray).data.toList [] = some [[99]] := by
  rw [mk_full (n := 3) rfl rfl (by decide) (by decide), mk_pgo rfl (.inr (by decide)) (.inr (by simp)), mj_nil]
  decide
theorem matchedK {w w' : World} {v : Value} {is : Bool} {x : Bs} (h : Matched w (some [x]) w' v is) : is = true ∧ ∃ g cap, v = .slice (some ⟨g, 0, none⟩) 1 cap ∧ w'.cell? ⟨g, 0, none⟩ = some (.string (bs x)) := by
  obtain ⟨h1, h2⟩ := h
  obtain ⟨g, cap, hv, _, _, hc⟩ := own_some h2 (by simp)
  exact ⟨h1, g, cap, hv, hc 0 _ rfl⟩
theorem matches_all (T : Nat → Nat × Nat) (w : World) (hE : EnvA T w) : Calls Tryz.prog 15 #[] w fun e w' => e = .returned (.bool true) ∧ Below w.heap.size w w' := by
  have hcall := values_all T ⟨#[47, 97, 47, 58, 98]⟩ ⟨#[47, 97, 47, 99]⟩ false w hE (by decide) (by decide)
  obtain ⟨N, hN⟩ := matches_parse
  rw [hN] at hcall
  have HC := Lib.hid hcall
  clear hcall hN hE
  go_enter Tryz.func15, Tryz.ntmps15
  go_wp2_with fail
  refine HC.out.mono ?_
  rintro e w1 ⟨hb, v, is, ok, rfl, rfl, hm⟩
  rw [matches_val] at hm
  obtain ⟨rfl, g, cap, rfl, hc⟩ := matchedK hm
  have hc' : w1.cell? ⟨g, 0, none⟩ = some (.string ⟨#[99]⟩) := hc
  have HB := Lib.hid hb
  clear hm hc hb
  go_wp2_with fail
  go_ret
  exact ⟨rfl, HB.out⟩

theorem valD_form {T : Nat → Nat × Nat} {part : Bool} {p : Bs} {w w' : World} {o : Option (List Seg × List Bs)} {e : Ending} (h : ValD T part p w o e w') :
    Below w.heap.size w w' ∧ ∃ a n cap is ok, e = .returned (.tuple #[.slice a n cap, .bool is, .bool ok]) ∧
      (ok = true → is = true → ∃ MN vs, o = some MN ∧ matchGo (chk T) part MN.1 p [] = some vs) ∧ (∀ MN vs, o = some MN → matchGo (chk T) part MN.1 p [] = some vs → ok = true ∧ is = true) := by
  obtain ⟨hb, v, is, ok, he, hm⟩ := h
  cases o with
  | none =>
    obtain ⟨rfl, rfl, rfl⟩ := hm
    exact ⟨hb, none, 0, 0, false, false, he, fun h => (by cases h), fun MN vs h => (by cases h)⟩
  | some MN =>
    obtain ⟨rfl, hm⟩ := hm
    cases hr : matchGo (chk T) part MN.1 p [] with
    | none =>
      rw [hr] at hm
      obtain ⟨rfl, rfl⟩ := hm
      exact ⟨hb, none, 0, 0, false, true, he, fun _ h => (by cases h), fun MN' vs h1 h2 => by cases h1; rw [hr] at h2; cases h2⟩
    | some vs =>
      rw [hr] at hm
      obtain ⟨rfl, hm⟩ := hm
      obtain ⟨a, cap, rfl⟩ := own_form hm
      exact ⟨hb, a, _, cap, true, true, he, fun _ _ => ⟨MN, vs, rfl, hr⟩, fun _ _ _ _ => ⟨rfl, rfl⟩⟩

set_option maxHeartbeats 2000000 in
set_option maxRecDepth 100000 in
theorem part_walk (T : Nat → Nat × Nat) (s p : ByteArray) (w : World) (hE : EnvA T w) (hs : s.size ≤ 140737488351232) (hps : p.size ≤ 140737488351232) :
    Calls Tryz.prog 6 #[.string s, .string p] w fun e w' => e = .returned (.bool true) ∧ Below w.heap.size w w' := by
  have HE := Lib.hid hE
  clear hE
  go_enter Tryz.func6, Tryz.ntmps6
  by_cases h1 : 2147483647 < s.size
  · go_wp2_with fail
    go_ret
    exact ⟨rfl, Below.refl _ _⟩
  by_cases h2 : 2147483647 < p.size
  · go_wp2_with fail
    go_ret
    exact ⟨rfl, Below.refl _ _⟩
  have HM := Lib.hid (matches_all T w HE.out)
  go_wp2_with fail
  refine HM.out.mono ?_
  rintro e w1 ⟨rfl, hb1⟩
  have HB1 := Lib.hid hb1
  have HE1 := Lib.hid (HE.out.below hb1)
  clear hb1
  obtain ⟨v, hv⟩ : ∃ v, v = (decide (s.size ≤ 2000) && decide (p.size ≤ 2000)) := ⟨_, rfl⟩
  have HS := Lib.hid (short_pair s p w1 v hv.symm)
  have HV := Lib.hid hv
  clear hv
  obtain ⟨W2, hW2⟩ : ∃ W2, W2 = w1.alloc (.cells #[.string s, .string p] 9) := ⟨_, rfl⟩
  have hb2 : Below w1.heap.size w1 W2 := by rw [hW2]; exact (Below.refl _ _).alloc (Nat.le_refl _) _
  have HW2 := Lib.hid hW2
  have HB2 := Lib.hid (HB1.out.trans (hb2.mono HB1.out.size))
  have HE2 := Lib.hid (HE1.out.below hb2)
  clear hW2 hb2
  go_wp2_with fail
  refine HS.out.mono ?_
  rintro e w3 ⟨rfl, rfl⟩
  rw [← HW2.out]
  cases v with
  | false =>
    go_wp2_with fail
    go_ret
    exact ⟨rfl, HB2.out⟩
  | true =>
    have hsz : s.size ≤ 2000 ∧ p.size ≤ 2000 := by
      have := HV.out.symm
      simpa using this
    have hsz1 := hsz.1
    have hsz2 := hsz.2
    clear hsz
    have HC1 := Lib.hid (values_all T s p false W2 HE2.out (by omega) (by omega))
    go_wp2_with fail
    refine HC1.out.mono ?_
    rintro e w4 hv4
    obtain ⟨hb4, a4, n4, c4, is, ok, rfl, hyes, hno⟩ := valD_form hv4
    have HB4 := Lib.hid (HB2.out.trans (hb4.mono HB2.out.size))
    have HE4 := Lib.hid (HE2.out.below hb4)
    have HYES := Lib.hid hyes
    clear hb4 hyes hno hv4
    have HC2 := Lib.hid (values_all T s p true w4 HE4.out (by omega) (by omega))
    go_wp2_with fail
    refine HC2.out.mono ?_
    rintro e w5 hv5
    obtain ⟨hb5, a5, n5, c5, is5, ok5, rfl, hyes5, hno5⟩ := valD_form hv5
    have HB5 := Lib.hid (HB4.out.trans (hb5.mono HB4.out.size))
    have HNO := Lib.hid hno5
    clear hb5 hyes5 hno5 hv5
    cases ok with
    | false =>
      go_wp2_with fail
      go_ret
      exact ⟨rfl, HB5.out⟩
    | true =>
      cases is with
      | false =>
        go_wp2_with fail
        go_ret
        exact ⟨rfl, HB5.out⟩
      | true =>
        obtain ⟨rfl, rfl⟩ : ok5 = true ∧ is5 = true := by
          obtain ⟨MN, vs, ho, hm⟩ := HYES.out rfl rfl
          exact HNO.out MN vs ho (match_part (chk T) MN.1 _ _ _ hm)
        go_wp2_with fail
        go_ret
        exact ⟨rfl, HB5.out⟩
end Go.Proofs.YtiebedcldbmlhaaGreatDoor
namespace Go.Proofs.YtiebedcldbmlhaaGreatDoor
open Go.RowKit
theorem part_laid (s p : ByteArray) (W : World) (h : laidMetH Tryz.prog laidAll W) (hs : s.size ≤ 140737488351232) (hp : p.size ≤ 140737488351232) :
    Calls Tryz.prog 6 #[.string s, .string p] W fun e w' => e = .returned (.bool true) ∧ Below W.heap.size W w' :=
  part_walk Fl.pTab s p W (envA_of_laid h) hs hp
end Go.Proofs.YtiebedcldbmlhaaGreatDoor
