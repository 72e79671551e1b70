/-
  The measure's functions numbers and length. Conditions: the texts' cells are read in the world at hand.
-/
import Derived.Test.YtiebedcldbmlhaaDoorU
import Derived.Deep.AppendLies
namespace Go.Proofs.YtiebedcldbmlhaaDoor
open Go.RowKit
open Fl (ns signOf isD ns_drop ns_len ns_end ns_lt ns_tail up)
set_option linter.unusedVariables false

theorem info3 : (Tryd.prog.info? 3).map (fun i => (i.zero, i.size, i.bytes)) = some (some (.int .i64 0), 1, 8) := by kernel_rfl
theorem grown_of_below {w w' : World} (hb : Below w.heap.size w w') : w.grownBy w' none := ⟨hb.os, hb.tape, hb.output, hb.size, fun k hk _ => hb.block k hk⟩
theorem own_below {w w' : World} {base : Nat} {e : TypeId} {sz n : Nat} {v : Value} {xs : List Value} (h : w.ownsRow base e sz v n xs) (hb : Below w.heap.size w w') : w'.ownsRow base e sz v n xs :=
  h.kept (grown_of_below hb) (by cases hv : v.ownBlock <;> simp)
theorem add_cell (b o j : Nat) : (⟨b, o, none⟩ : Addr).add j = ⟨b, o + j, none⟩ := by
  unfold Addr.add
  split
  · rename_i h0; simp_all
  · rfl
def wv (s : ByteArray) : Int := (wholeN (ns s)).1
def wsay (s : ByteArray) : Int := (wholeN (ns s)).2
def ivals (l : List Int) : List Value := l.map (Value.int .i64)
theorem ivals_one (l : List Int) : ∀ u ∈ ivals l, u.oneCell' = true := by
  intro u hu
  obtain ⟨s, _, rfl⟩ := List.mem_map.1 hu
  rfl

theorem numbers_few (v : Value) (m n cap : Nat) (a : Option Addr) (hv : v = .slice a m cap) (hmn : m < n) (w : World) :
    Calls Tryd.prog 17 #[v, .int .i64 n] w fun e w' => e = .returned (.tuple #[.slice none 0 0, .int .i64 2]) ∧ w' = w := by
  have b1 : decide ((m : Int) < (n : Int)) = true := decide_eq_true (by omega)
  subst hv
  go_enter Tryd.func17, Tryd.ntmps17
  go_wp2_with fail
  go_ret2
  exact ⟨rfl, rfl⟩

def NumPost (ds : List ByteArray) (n : Nat) (w : World) (e : Ending) (w' : World) : Prop :=
  Below w.heap.size w w' ∧ ((∃ i, i < n ∧ wsay (ds.getD i ByteArray.empty) ≠ 1 ∧ e = .returned (.tuple #[.slice none 0 0, .int .i64 2])) ∨
    ((∀ i, i < n → wsay (ds.getD i ByteArray.empty) = 1) ∧ ∃ v, e = .returned (.tuple #[v, .int .i64 1]) ∧ w'.ownsRow w.heap.size 3 1 v n (ivals ((ds.take n).map wv))))
theorem take_step' {ds : List ByteArray} {k : Nat} (h : k < ds.length) : (ds.take (k + 1)).map wv = (ds.take k).map wv ++ [wv (ds.getD k ByteArray.empty)] := by
  rw [List.take_add_one, List.getElem?_eq_getElem h, List.map_append]
  simp [List.getD, h]

set_option maxHeartbeats 4000000 in
set_option maxRecDepth 100000 in
theorem numbers_some (b off cap n : Nat) (ds : List ByteArray) (w : World) (hn0 : 1 ≤ n) (hn : n ≤ 2) (hl : n ≤ ds.length) (hl2 : ds.length ≤ 1000) (hcap : ds.length ≤ cap) (hsz : ∀ i, i < ds.length → (ds.getD i ByteArray.empty).size ≤ 1000000000) (hc : StrCells w b off ds) :
    Calls Tryd.prog 17 #[.slice (some ⟨b, off, none⟩) ds.length cap, .int .i64 n] w (NumPost ds n w) := by
  obtain ⟨i0, hi, hz0, hz1, hz2⟩ := info_parts info3
  have hb : b < w.heap.size := by have := cell_lt (hc 0 (by omega)); exact this
  have HC := Lib.hid hc
  have HSZ := Lib.hid hsz
  clear hc hsz
  have b1 : decide (ds.length < n) = false := decide_eq_false (by omega)
  go_enter Tryd.func17, Tryd.ntmps17
  go_wp2_with fail
  go_loopw [6, 19] (fun v i wr => ∃ k : Nat, k ≤ n ∧ i = .int .i64 k ∧ (∀ j, j < k → wsay (ds.getD j ByteArray.empty) = 1) ∧ wr.ownsRow w.heap.size 3 1 v k (ivals ((ds.take k).map wv)) ∧ Below w.heap.size w wr) (fun v i _ => n - (intOf i).toNat)
  case atStart => exact ⟨0, Nat.zero_le _, rfl, fun j h => absurd h (Nat.not_lt_zero _), World.ownsRow_nil _ _ _ _, Below.refl _ _⟩
  case round =>
    obtain ⟨k, hk, rfl, hall, hown, hbr⟩ := hrel
    have HA := Lib.hid hall
    have HO := Lib.hid hown
    have HB := Lib.hid hbr
    clear hall hown hbr
    by_cases hlt : k < n
    · have hck := (HC.out.below HB.out hb) k (by omega)
      obtain ⟨s, hs⟩ : ∃ s, s = ds.getD k ByteArray.empty := ⟨_, rfl⟩
      have hss := HSZ.out k (by omega)
      rw [← hs] at hck hss
      have HS := Lib.hid hs
      clear hs
      obtain ⟨x, hx⟩ : ∃ x, x = wv s := ⟨_, rfl⟩
      obtain ⟨y, hy⟩ : ∃ y, y = wsay s := ⟨_, rfl⟩
      have hw : ∀ w, Calls Tryd.prog 13 #[.string s] w fun e w' => e = .returned (.tuple #[.int .i64 x, .int .i64 y]) ∧ w = w' := fun w => by rw [hx, hy]; exact whole_any s w hss
      have HW := Lib.hid hw
      clear hw
      have HX := Lib.hid hx
      have HY := Lib.hid hy
      clear hx hy
      by_cases hy1 : y = 1
      · have b2 : (y != 1) = false := by rw [hy1]; rfl
        have HY1 := Lib.hid hy1
        clear hy1
        go_wp2_with (first | (refine (HW.out _).mono ?_; rintro e w' ⟨rfl, rfl⟩) | (at_builtin; refine wpList_append_own _ rfl (.tmp 30) (.tmp 32) 44 rfl w.heap.size 3 i0 (.int .i64 0) 1 8 Tryd.underlying44 hi hz0 hz1 hz2 rfl (by decide) _ _ _ (by rfl) (HO.out.alloc _) ⟨wr.heap.size, 0, none⟩ 1 1 (ivals [x]) (by rfl) (by rfl) (fun j u hu => by rw [add_cell, Nat.zero_add, cell_alloc, if_pos rfl]; simpa [objCell, ivals] using hu) (ivals_one _) (by simp [maxLen]; omega) (by omega) (by have := HB.out.size; simp; omega) ?_; intro v' w2 hown' hgrow hnil'))
        have hlt' := fun k' h => (HO.out.lt (k := k') h).1
        have hbw := (HB.out.alloc (by have := HB.out.size; omega) (.cells #[.int .i64 x] 3)).grown hgrow (by have := HB.out.size; simp; omega) hlt'
        have hown2 : w2.ownsRow w.heap.size 3 1 v' (k + 1) (ivals ((ds.take (k + 1)).map wv)) := by
          rw [take_step' (by omega), ← HS.out, ← HX.out]
          simpa [ivals] using hown'
        have HO2 := Lib.hid hown2
        have HB2 := Lib.hid hbw
        clear hown' hgrow hnil' hown2 hbw hlt'
        go_wp2_with fail
        go_roundw
        case rel =>
          refine ⟨k + 1, by omega, by go_num, fun j hj => ?_, HO2.out, HB2.out⟩
          rcases Nat.lt_or_ge j k with h | h
          · exact HA.out j h
          · obtain rfl : j = k := by omega
            rw [← HS.out, ← HY.out]; exact HY1.out
        case measure => simp [intOf]; omega
      · have b2 : (y != 1) = true := by simpa using hy1
        have HY1 := Lib.hid hy1
        clear hy1
        go_wp2_with (refine (HW.out _).mono ?_; rintro e w' ⟨rfl, rfl⟩)
        go_ret2
        exact ⟨HB.out, .inl ⟨k, hlt, by rw [← HS.out, ← HY.out]; exact HY1.out, rfl⟩⟩
    · obtain rfl : k = n := by omega
      go_wp2_with fail
      go_ret2
      exact ⟨HB.out, .inr ⟨HA.out, _, rfl, HO.out⟩⟩
end Go.Proofs.YtiebedcldbmlhaaDoor
