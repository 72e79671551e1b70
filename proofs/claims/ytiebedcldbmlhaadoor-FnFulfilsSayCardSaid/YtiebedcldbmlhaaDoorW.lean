/-
  The measure's function length, the laws' functions zzFits1 and zzFits6. Conditions: the texts' and the numbers' cells are read in the world at hand.
-/
import Derived.Test.YtiebedcldbmlhaaDoorV
namespace Go.Proofs.YtiebedcldbmlhaaDoor
open Go.RowKit
open Fl (ns signOf isD ns_drop ns_len ns_end ns_lt ns_tail up)
set_option linter.unusedVariables false

def ascB (s : ByteArray) : Bool := (ns s).all (fun c => decide (c < 128))
def lengthN (kind D0 D1 : Int) (s : ByteArray) : Bool × Int :=
  if ascB s = false then (false, 2) else if kind = 8 then (decide (D0 ≤ s.size), 1) else if kind = 9 then (decide ((s.size : Int) ≤ D0), 1) else if kind = 10 then ((s.size : Int) == D0, 1)
  else (decide (D0 ≤ s.size) && decide ((s.size : Int) ≤ D1), 1)

set_option maxHeartbeats 2000000 in
set_option maxRecDepth 100000 in
theorem length_any (kind D0 D1 : Int) (g n cap : Nat) (s : ByteArray) (w : World) (hk : kind = 8 ∨ kind = 9 ∨ kind = 10 ∨ kind = 11) (hs : s.size ≤ 1000000000) (hn : 1 ≤ n) (c0 : w.cell? ⟨g, 0, none⟩ = some (.int .i64 D0)) (h1 : kind = 11 → 2 ≤ n ∧ w.cell? ⟨g, 1, none⟩ = some (.int .i64 D1)) :
    Calls Tryd.prog 18 #[.int .i64 kind, .slice (some ⟨g, 0, none⟩) n cap, .string s] w fun e w' => e = .returned (.tuple #[.bool (lengthN kind D0 D1 s).1, .int .i64 (lengthN kind D0 D1 s).2]) ∧ w = w' := by
  have hA : ∀ w, Calls Tryd.prog 24 #[.string s] w fun e w' => e = .returned (.bool (ascB s)) ∧ w = w' := fun w => ascii_any s w hs
  cases has : ascB s with
  | false =>
    rw [has] at hA
    have HA := Lib.hid hA
    have HR := Lib.hid (show lengthN kind D0 D1 s = (false, 2) by unfold lengthN; rw [if_pos has])
    clear hA has
    go_enter Tryd.func18, Tryd.ntmps18
    go_wp2_with (refine (HA.out _).mono ?_; rintro e w' ⟨rfl, rfl⟩)
    go_ret2
    exact ⟨pairb_ret HR.out, rfl⟩
  | true =>
    rw [has] at hA
    have HA := Lib.hid hA
    have hR : lengthN kind D0 D1 s = if kind = 8 then (decide (D0 ≤ s.size), 1) else if kind = 9 then (decide ((s.size : Int) ≤ D0), 1) else if kind = 10 then ((s.size : Int) == D0, 1)
      else (decide (D0 ≤ s.size) && decide ((s.size : Int) ≤ D1), 1) := by unfold lengthN; rw [if_neg (by rw [has]; decide)]
    have HR := Lib.hid hR
    clear hA has hR
    go_enter Tryd.func18, Tryd.ntmps18
    rcases hk with h | h | h | h
    · subst h
      clear h1
      have HF := Lib.hid (HR.out.trans (if_pos rfl))
      go_wp2_with (refine (HA.out _).mono ?_; rintro e w' ⟨rfl, rfl⟩)
      go_ret2
      exact ⟨pairb_ret HF.out, rfl⟩
    · subst h
      clear h1
      have HF := Lib.hid ((HR.out.trans (if_neg (by decide))).trans (if_pos rfl))
      go_wp2_with (refine (HA.out _).mono ?_; rintro e w' ⟨rfl, rfl⟩)
      go_ret2
      exact ⟨pairb_ret HF.out, rfl⟩
    · subst h
      clear h1
      have HF := Lib.hid (((HR.out.trans (if_neg (by decide))).trans (if_neg (by decide))).trans (if_pos rfl))
      go_wp2_with (refine (HA.out _).mono ?_; rintro e w' ⟨rfl, rfl⟩)
      go_ret2
      exact ⟨pairb_ret HF.out, rfl⟩
    · subst h
      obtain ⟨hn2, c1⟩ := h1 rfl
      clear h1
      have HF := Lib.hid (((HR.out.trans (if_neg (by decide))).trans (if_neg (by decide))).trans (if_neg (by decide)))
      by_cases hd : D0 ≤ s.size
      · have b1 : decide (D0 ≤ (s.size : Int)) = true := decide_eq_true hd
        clear hd
        go_wp2_with (refine (HA.out _).mono ?_; rintro e w' ⟨rfl, rfl⟩)
        go_ret2
        exact ⟨pairb_ret (HF.out.trans (by rw [b1]; rfl)), rfl⟩
      · have b1 : decide (D0 ≤ (s.size : Int)) = false := decide_eq_false hd
        clear hd
        go_wp2_with (refine (HA.out _).mono ?_; rintro e w' ⟨rfl, rfl⟩)
        go_ret2
        exact ⟨pairb_ret (HF.out.trans (by rw [b1]; rfl)), rfl⟩

/-- zzFits1: no text longer than the measure; nor the list. -/
def fitsB (ss : List ByteArray) : Bool := decide (ss.length ≤ 2147483647) && ss.all (fun s => decide (s.size ≤ 2147483647))
theorem fitsB_no {ss : List ByteArray} {k : Nat} (hk : k < ss.length) (h : 2147483647 < (ss.getD k ByteArray.empty).size) : fitsB ss = false := by
  unfold fitsB
  rw [Bool.and_eq_false_iff]; right
  rw [List.all_eq_false]
  refine ⟨ss[k], List.getElem_mem _, ?_⟩
  simpa [List.getD, hk] using h
theorem fitsB_yes {ss : List ByteArray} (hl : ss.length ≤ 2147483647) (h : ∀ i, i < ss.length → (ss.getD i ByteArray.empty).size ≤ 2147483647) : fitsB ss = true := by
  unfold fitsB
  rw [decide_eq_true hl, Bool.true_and, List.all_eq_true]
  intro s hs
  obtain ⟨i, hi, rfl⟩ := List.getElem_of_mem hs
  have := h i hi
  simpa [List.getD, hi] using this
theorem fitsB_len {ss : List ByteArray} (hl : 2147483647 < ss.length) : fitsB ss = false := by
  unfold fitsB
  rw [decide_eq_false (by omega)]
  rfl

set_option maxHeartbeats 1000000 in
theorem fits1_some (b off cap : Nat) (ss : List ByteArray) (w : World) (hl : ss.length ≤ maxLen) (hc : StrCells w b off ss) :
    Calls Tryd.prog 12 #[.slice (some ⟨b, off, none⟩) ss.length cap] w fun e w' => e = .returned (.bool (fitsB ss)) ∧ w = w' := by
  unfold maxLen at hl
  have HC := Lib.hid hc
  clear hc
  go_enter Tryd.func12, Tryd.ntmps12
  by_cases hbig : 2147483647 < ss.length
  · have HB := Lib.hid (fitsB_len hbig)
    have b1 : decide ((2147483647 : Int) < (ss.length : Int)) = true := decide_eq_true (by omega)
    clear hbig
    go_wp2_with fail
    go_ret
    exact ⟨ret_bool HB.out.symm, rfl⟩
  have b1 : decide ((2147483647 : Int) < (ss.length : Int)) = false := decide_eq_false (by omega)
  have HL := Lib.hid (show ss.length ≤ 2147483647 by omega)
  clear hbig
  go_wp2_with fail
  go_loop [10] (fun i => ∃ k : Nat, k ≤ ss.length ∧ i = .int .i64 k ∧ (∀ j, j < k → (ss.getD j ByteArray.empty).size ≤ 2147483647)) (fun i => ss.length - (intOf i).toNat)
  case atStart => exact ⟨0, Nat.zero_le _, rfl, fun j h => absurd h (Nat.not_lt_zero _)⟩
  case round =>
    obtain ⟨k, hk, rfl, hall⟩ := hrel
    have HA := Lib.hid hall
    clear hall
    by_cases hlt : k < ss.length
    · have hck := HC.out k hlt
      obtain ⟨s, hs⟩ : ∃ s, s = ss.getD k ByteArray.empty := ⟨_, rfl⟩
      rw [← hs] at hck
      have HS := Lib.hid hs
      clear hs
      by_cases hbg : 2147483647 < s.size
      · have b2 : decide ((2147483647 : Int) < (s.size : Int)) = true := decide_eq_true (by omega)
        have HBG := Lib.hid hbg
        clear hbg
        go_wp2_with fail
        go_ret
        exact ⟨ret_bool (fitsB_no hlt (by rw [← HS.out]; exact HBG.out)).symm, rfl⟩
      · have b2 : decide ((2147483647 : Int) < (s.size : Int)) = false := decide_eq_false (by omega)
        have HBG := Lib.hid hbg
        clear hbg
        go_wp2_with fail
        go_round
        case rel => exact ⟨k + 1, by omega, by go_num, fun j hj => by
            rcases Nat.lt_or_ge j k with h | h
            · exact HA.out j h
            · obtain rfl : j = k := by omega
              rw [← HS.out]; have := HBG.out; omega⟩
        case measure => simp [intOf]; omega
    · obtain rfl : k = ss.length := by omega
      go_wp2_with fail
      go_ret
      exact ⟨ret_bool (fitsB_yes HL.out HA.out).symm, rfl⟩

theorem fits1_nil (w : World) : Calls Tryd.prog 12 #[.slice none 0 0] w fun e w' => e = .returned (.bool true) ∧ w = w' := by
  go_enter Tryd.func12, Tryd.ntmps12
  go_wp2
  refine wp_loop_rounds 1 ?_; rw [rounds_succ]
  go_wp2
  go_ret
  exact ⟨rfl, rfl⟩

/-- zzFits6, of what zzFits1 says of the list. -/
theorem fits6_of (kind : Int) (dv : Value) (X : Bool) (w : World) (hk : ∃ a m cap, dv = .slice a m cap) (h : ∀ w', Below w.heap.size w w' → Calls Tryd.prog 12 #[dv] w' fun e w'' => e = .returned (.bool X) ∧ w' = w'') :
    Calls Tryd.prog 9 #[.agg #[.int .i64 kind, dv]] w fun e w' => e = .returned (.bool X) ∧ Below w.heap.size w w' := by
  obtain ⟨a, m, cap, rfl⟩ := hk
  have H := Lib.hid h
  clear h
  have HB := Lib.hid (show Below w.heap.size w (w.alloc (.cells #[.int .i64 kind, .slice a m cap] 25)) from (Below.refl _ _).alloc (Nat.le_refl _) _)
  go_enter Tryd.func9, Tryd.ntmps9
  go_wp2_with fail
  refine (H.out _ HB.out).mono ?_
  rintro e w' ⟨rfl, rfl⟩
  cases X with
  | true =>
    go_wp2_with fail
    go_ret
    exact ⟨rfl, HB.out⟩
  | false =>
    go_wp2_with fail
    go_ret
    exact ⟨rfl, HB.out⟩
end Go.Proofs.YtiebedcldbmlhaaDoor
