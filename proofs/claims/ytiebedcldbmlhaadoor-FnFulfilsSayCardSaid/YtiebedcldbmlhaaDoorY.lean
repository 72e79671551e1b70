/-
  The measure's function Fulfils at the kinds that have numbers. Conditions: what numbers answers.
-/
import Derived.Test.YtiebedcldbmlhaaDoorX
namespace Go.Proofs.YtiebedcldbmlhaaDoor
open Go.RowKit
open Fl (ns signOf isD ns_drop ns_len ns_end ns_lt ns_tail up)
set_option linter.unusedVariables false

set_option maxHeartbeats 2000000 in
set_option maxRecDepth 100000 in
theorem spec_few (X : Bool → Prop) (kind need : Int) (hk : kind = 8 ∧ need = 1 ∨ kind = 9 ∧ need = 1 ∨ kind = 10 ∧ need = 1 ∨ kind = 11 ∧ need = 2 ∨ kind = 12 ∧ need = 1 ∨ kind = 13 ∧ need = 1 ∨ kind = 14 ∧ need = 2)
    (a : Option Addr) (m cap : Nat) (s : ByteArray) (w : World) (h : ∀ w', Calls Tryd.prog 17 #[.slice a m cap, .int .i64 need] w' fun e w'' => e = .returned (.tuple #[.slice none 0 0, .int .i64 2]) ∧ w'' = w') :
    Calls Tryd.prog 10 #[.agg #[.int .i64 kind, .slice a m cap], .string s] w fun e w' => Spec X e ∧ Below w.heap.size w w' := by
  have H := Lib.hid h
  clear h
  go_enter Tryd.func10, Tryd.ntmps10
  rcases hk with ⟨rfl, rfl⟩ | ⟨rfl, rfl⟩ | ⟨rfl, rfl⟩ | ⟨rfl, rfl⟩ | ⟨rfl, rfl⟩ | ⟨rfl, rfl⟩ | ⟨rfl, rfl⟩
  all_goals
    go_wp2_with (refine (H.out _).mono ?_; rintro e w' ⟨rfl, rfl⟩)
    go_ret2
    exact ⟨spec_open rfl, box_below w _⟩

def AllOne (ds : List ByteArray) (n : Nat) : Prop := ∀ i, i < n → wsay (ds.getD i ByteArray.empty) = 1
def d0 (ds : List ByteArray) : ByteArray := ds.getD 0 ByteArray.empty
def d1 (ds : List ByteArray) : ByteArray := ds.getD 1 ByteArray.empty
/-- What a row of numbers holds. -/
theorem row_cells {w w1 : World} {v : Value} {n : Nat} {ds : List ByteArray} (h : w1.ownsRow w.heap.size 3 1 v n (ivals ((ds.take n).map wv))) (hn : 1 ≤ n) (hl : n ≤ ds.length) :
    ∃ g cap, v = .slice (some ⟨g, 0, none⟩) n cap ∧ w1.cell? ⟨g, 0, none⟩ = some (.int .i64 (wv (d0 ds))) ∧ (2 ≤ n → w1.cell? ⟨g, 1, none⟩ = some (.int .i64 (wv (d1 ds)))) := by
  obtain ⟨g, cap, rfl, _, _, hc⟩ := own_some h (by omega)
  refine ⟨g, cap, rfl, hc 0 _ ?_, fun h2 => hc 1 _ ?_⟩
  · unfold ivals d0
    rw [List.getElem?_map, List.getElem?_map, List.getElem?_take_of_lt (by omega), List.getElem?_eq_getElem (by omega)]
    simp [List.getD, show 0 < ds.length by omega]
  · unfold ivals d1
    rw [List.getElem?_map, List.getElem?_map, List.getElem?_take_of_lt (by omega), List.getElem?_eq_getElem (by omega)]
    simp [List.getD, show 1 < ds.length by omega]

set_option maxHeartbeats 2000000 in
set_option maxRecDepth 100000 in
theorem spec_len (kind need : Int) (n : Nat) (hk : (kind = 8 ∧ need = 1 ∨ kind = 9 ∧ need = 1 ∨ kind = 10 ∧ need = 1) ∨ kind = 11 ∧ need = 2 ∧ 2 ≤ n) (hn : 1 ≤ n)
    (a : Option Addr) (m cap : Nat) (ds : List ByteArray) (hl : n ≤ ds.length) (s : ByteArray) (hs : s.size ≤ 1000000000) (w : World) (h : ∀ w', Below w.heap.size w w' → Calls Tryd.prog 17 #[.slice a m cap, .int .i64 need] w' (NumPost ds n w')) :
    Calls Tryd.prog 10 #[.agg #[.int .i64 kind, .slice a m cap], .string s] w fun e w' => Spec (fun b => AllOne ds n ∧ ascB s = true ∧ b = (lengthN kind (wv (d0 ds)) (wv (d1 ds)) s).1) e ∧ Below w.heap.size w w' := by
  have H := Lib.hid h
  clear h
  have HB0 := Lib.hid (box_below w (.cells #[.int .i64 kind, .slice a m cap] 33))
  have hc0 : (w.alloc (.cells #[.int .i64 kind, .slice a m cap] 33)).cell? ⟨w.heap.size, 0, none⟩ = some (.int .i64 kind) := by simp [cell_alloc, objCell]
  have HC0 := Lib.hid hc0
  clear hc0
  go_enter Tryd.func10, Tryd.ntmps10
  rcases hk with (⟨rfl, rfl⟩ | ⟨rfl, rfl⟩ | ⟨rfl, rfl⟩) | ⟨rfl, rfl, _⟩
  all_goals
    go_wp2_with fail
    refine (H.out _ HB0.out).mono ?_
    rintro e w1 ⟨hb1, ⟨i, hi, hno, rfl⟩ | ⟨hall, v, rfl, hown⟩⟩
    · have HB1 := Lib.hid (HB0.out.trans (hb1.mono HB0.out.size))
      clear hb1 hno
      go_wp2_with fail
      go_ret2
      exact ⟨spec_open rfl, HB1.out⟩
    · obtain ⟨g, cap', rfl, c0, c1⟩ := row_cells hown hn hl
      have ck := (hb1.cell (p := ⟨w.heap.size, 0, none⟩) (cell_lt HC0.out)).trans HC0.out
      have HB1 := Lib.hid (HB0.out.trans (hb1.mono HB0.out.size))
      have HALL := Lib.hid hall
      have HC0' := Lib.hid c0
      have HC1' := Lib.hid c1
      clear hb1 hall hown c0 c1
      go_wp2_with fail
      refine (length_any _ (wv (d0 ds)) (wv (d1 ds)) g n cap' s w1 (by omega) hs hn HC0'.out (fun h => ⟨by omega, HC1'.out (by omega)⟩)).mono ?_
      rintro e w2 ⟨rfl, rfl⟩
      go_wp2_with fail
      go_ret2
      refine ⟨⟨_, _, rfl, ?_⟩, HB1.out⟩
      unfold lengthN
      cases has : ascB s with
      | false => exact .inl rfl
      | true =>
        refine .inr ⟨?_, HALL.out, rfl, rfl⟩
        simp
/-- What the measure says of a number against numbers. -/
def cmpN (kind D0 D1 x : Int) : Bool := if kind = 12 then decide (D0 ≤ x) else if kind = 13 then decide (x ≤ D0) else decide (D0 ≤ x) && decide (x ≤ D1)

set_option maxHeartbeats 2000000 in
set_option maxRecDepth 100000 in
theorem spec_num (kind need : Int) (n : Nat) (hk : (kind = 12 ∧ need = 1 ∨ kind = 13 ∧ need = 1) ∨ kind = 14 ∧ need = 2 ∧ 2 ≤ n) (hn : 1 ≤ n)
    (a : Option Addr) (m cap : Nat) (ds : List ByteArray) (hl : n ≤ ds.length) (s : ByteArray) (hs : s.size ≤ 1000000000) (w : World) (h : ∀ w', Below w.heap.size w w' → Calls Tryd.prog 17 #[.slice a m cap, .int .i64 need] w' (NumPost ds n w')) :
    Calls Tryd.prog 10 #[.agg #[.int .i64 kind, .slice a m cap], .string s] w fun e w' => Spec (fun b => AllOne ds n ∧ wsay s ≠ 2 ∧ b = (decide (wsay s ≠ 0) && cmpN kind (wv (d0 ds)) (wv (d1 ds)) (wv s))) e ∧ Below w.heap.size w w' := by
  have H := Lib.hid h
  clear h
  have HB0 := Lib.hid (box_below w (.cells #[.int .i64 kind, .slice a m cap] 33))
  have hc0 : (w.alloc (.cells #[.int .i64 kind, .slice a m cap] 33)).cell? ⟨w.heap.size, 0, none⟩ = some (.int .i64 kind) := by simp [cell_alloc, objCell]
  have HC0 := Lib.hid hc0
  clear hc0
  obtain ⟨x, hx⟩ : ∃ x, x = wv s := ⟨_, rfl⟩
  obtain ⟨y, hy⟩ : ∃ y, y = wsay s := ⟨_, rfl⟩
  have hw : ∀ w, Calls Tryd.prog 13 #[.string s] w fun e w' => e = .returned (.tuple #[.int .i64 x, .int .i64 y]) ∧ w = w' := fun w => by rw [hx, hy]; exact whole_any s w hs
  rw [← hy, ← hx]
  have HW := Lib.hid hw
  clear hw hx hy
  obtain ⟨E0, hE0⟩ : ∃ E0, E0 = wv (d0 ds) := ⟨_, rfl⟩
  obtain ⟨E1, hE1⟩ : ∃ E1, E1 = wv (d1 ds) := ⟨_, rfl⟩
  rw [← hE0, ← hE1]
  have HE0 := Lib.hid hE0
  have HE1 := Lib.hid hE1
  clear hE0 hE1
  go_enter Tryd.func10, Tryd.ntmps10
  rcases hk with (⟨rfl, rfl⟩ | ⟨rfl, rfl⟩) | ⟨rfl, rfl, hn2⟩
  all_goals
    go_wp2_with fail
    refine (H.out _ HB0.out).mono ?_
    rintro e w1 ⟨hb1, ⟨i, hi, hno, rfl⟩ | ⟨hall, v, rfl, hown⟩⟩
    · have HB1 := Lib.hid (HB0.out.trans (hb1.mono HB0.out.size))
      clear hb1 hno
      go_wp2_with fail
      go_ret2
      exact ⟨spec_open rfl, HB1.out⟩
    · obtain ⟨g, cap', rfl, c0, c1⟩ := row_cells hown hn hl
      rw [← HE0.out] at c0
      have c1' : 2 ≤ n → w1.cell? ⟨g, 1, none⟩ = some (.int .i64 E1) := fun h => by rw [HE1.out]; exact c1 h
      have ck := (hb1.cell (p := ⟨w.heap.size, 0, none⟩) (cell_lt HC0.out)).trans HC0.out
      have HB1 := Lib.hid (HB0.out.trans (hb1.mono HB0.out.size))
      have HALL := Lib.hid hall
      have HC1' := Lib.hid c1'
      clear hb1 hall hown c1 c1'
      by_cases h2 : y = 2
      · subst h2
        go_wp2_with (refine (HW.out _).mono ?_; rintro e w' ⟨rfl, rfl⟩)
        go_ret2
        exact ⟨spec_open rfl, HB1.out⟩
      · have b2 : (y == 2) = false := beq_eq_false_iff_ne.2 h2
        have H2 := Lib.hid h2
        clear h2
        by_cases h0 : y = 0
        · subst h0
          go_wp2_with (refine (HW.out _).mono ?_; rintro e w' ⟨rfl, rfl⟩)
          go_ret2
          exact ⟨spec_yes rfl ⟨HALL.out, H2.out, by simp⟩, HB1.out⟩
        · have b0 : (y == 0) = false := beq_eq_false_iff_ne.2 h0
          have H0 := Lib.hid h0
          clear h0
          first
          | (have c1 := HC1'.out hn2
             by_cases hd : E0 ≤ x
             · have b3 : decide (E0 ≤ x) = true := decide_eq_true hd
               clear hd
               go_wp2_with (refine (HW.out _).mono ?_; rintro e w' ⟨rfl, rfl⟩)
               go_ret2
               exact ⟨spec_yes rfl ⟨HALL.out, H2.out, by rw [decide_eq_true H0.out]; unfold cmpN; rw [if_neg (by decide), if_neg (by decide), b3]; rfl⟩, HB1.out⟩
             · have b3 : decide (E0 ≤ x) = false := decide_eq_false hd
               clear hd
               go_wp2_with (refine (HW.out _).mono ?_; rintro e w' ⟨rfl, rfl⟩)
               go_ret2
               exact ⟨spec_yes rfl ⟨HALL.out, H2.out, by rw [decide_eq_true H0.out]; unfold cmpN; rw [if_neg (by decide), if_neg (by decide), b3]; rfl⟩, HB1.out⟩)
          | (go_wp2_with (refine (HW.out _).mono ?_; rintro e w' ⟨rfl, rfl⟩)
             go_ret2
             exact ⟨spec_yes rfl ⟨HALL.out, H2.out, by rw [decide_eq_true H0.out]; rfl⟩, HB1.out⟩)
end Go.Proofs.YtiebedcldbmlhaaDoor
