/-
  Fulfils at the kinds 2 and 8 to 14 with the digits of numbers as data. Conditions: the numbers are from 0 to 2^40.
-/
import Derived.Test.YtiebedcldbmlhaaDoorG
import Derived.Test.YtiebedcldbmlhaaDoorP
namespace Go.Proofs.YtiebedcldbmlhaaDoor
open Go.RowKit
set_option linter.unusedVariables false

theorem bs_data (l : List UInt8) : (bs l).data.toList = l := by simp
theorem atoiVal_digits (a : Int) (h0 : 0 ≤ a) (h1 : a ≤ 1099511627776) : atoiVal (bs (Lib.decDigits a.toNat)).data.toList = a := by
  rw [bs_data]; unfold atoiVal; rw [atoi_digits _ (by omega)]; simp; omega
theorem atoiOk_digits (a : Int) (h0 : 0 ≤ a) (h1 : a ≤ 1099511627776) : atoiOk (bs (Lib.decDigits a.toNat)).data.toList = true := by
  rw [bs_data]; unfold atoiOk; rw [atoi_digits _ (by omega)]

theorem cells_one {w : World} {b off : Nat} {d : ByteArray} (h : w.cell? ⟨b, off, none⟩ = some (.string d)) : StrCells w b off [d] := by
  intro i hi
  have : i = 0 := by simpa using hi
  subst this
  exact h
theorem cells_two {w : World} {b off : Nat} {d e : ByteArray} (h : w.cell? ⟨b, off, none⟩ = some (.string d)) (h' : w.cell? ⟨b, off + 1, none⟩ = some (.string e)) : StrCells w b off [d, e] := by
  intro i hi
  simp at hi
  rcases (show i = 0 ∨ i = 1 by omega) with rfl | rfl
  · exact h
  · exact h'

/-- One datum. -/
theorem ful_one (kind : Int) (X : Bool) (b off cap : Nat) (s d : ByteArray) (w : World) (hE : Env w) (hk1 : 1 ≤ kind) (hk2 : kind ≤ 15)
    (hc : w.cell? ⟨b, off, none⟩ = some (.string d))
    (hX : ∀ (bp o b off cap n : Nat) (d1 : ByteArray) (w' : World), Env w' → d1.size ≤ 140737488351232 → 1 ≤ n → w'.cell? ⟨bp, o, none⟩ = some (.int .i16 kind) → w'.cell? ⟨bp, o + 1, none⟩ = some (.slice (some ⟨b, off, none⟩) n cap) → w'.cell? ⟨b, off, none⟩ = some (.string d) →
      Calls Tryd.prog 11 #[.pointer (some ⟨bp, o, none⟩), .string s] w' fun e w'' => e = .returned (.bool X) ∧ Below w'.heap.size w' w'') :
    Calls Tryd.prog 6 #[.agg #[.int .i64 kind, .slice (some ⟨b, off, none⟩) 1 cap], .string s] w fun e w' => e = .returned (.bool X) ∧ Below w.heap.size w w' :=
  fulfils_some kind b off 1 cap s [d] w hE hk1 hk2 (Nat.le_refl _) rfl (by decide) (cells_one hc) X
    (fun p g cap' w' hb c0 c1 hcs => hX p 0 g 0 cap' 1 ByteArray.empty w' (hE.below hb hE.size) (Nat.zero_le _) (Nat.le_refl _) c0 c1 (hcs 0 (by simp)))

theorem ful8 (a : Int) (h0 : 0 ≤ a) (h1 : a ≤ 1099511627776) (b off cap : Nat) (s : ByteArray) (w : World) (hE : Env w) (hs : s.size ≤ 140737488351232) (hc : w.cell? ⟨b, off, none⟩ = some (.string (bs (Lib.decDigits a.toNat)))) :
    Calls Tryd.prog 6 #[.agg #[.int .i64 8, .slice (some ⟨b, off, none⟩) 1 cap], .string s] w fun e w' => e = .returned (.bool (decide (a ≤ (s.size : Int)))) ∧ Below w.heap.size w w' :=
  ful_one 8 _ b off cap s _ w hE (by decide) (by decide) hc fun bp o b off cap n d1 w' hE' hd hn c0 c1 c2 => by
    have h := check8 bp o b off cap n s (bs (Lib.decDigits a.toNat)) d1 w' hE' hs (Nat.le_trans (decDigits_size _ (by omega)) (by decide)) hd hn c0 c1 c2
    rw [atoiVal_digits a h0 h1] at h
    exact h
theorem ful9 (a : Int) (h0 : 0 ≤ a) (h1 : a ≤ 1099511627776) (b off cap : Nat) (s : ByteArray) (w : World) (hE : Env w) (hs : s.size ≤ 140737488351232) (hc : w.cell? ⟨b, off, none⟩ = some (.string (bs (Lib.decDigits a.toNat)))) :
    Calls Tryd.prog 6 #[.agg #[.int .i64 9, .slice (some ⟨b, off, none⟩) 1 cap], .string s] w fun e w' => e = .returned (.bool (decide ((s.size : Int) ≤ a))) ∧ Below w.heap.size w w' :=
  ful_one 9 _ b off cap s _ w hE (by decide) (by decide) hc fun bp o b off cap n d1 w' hE' hd hn c0 c1 c2 => by
    have h := check9 bp o b off cap n s (bs (Lib.decDigits a.toNat)) d1 w' hE' hs (Nat.le_trans (decDigits_size _ (by omega)) (by decide)) hd hn c0 c1 c2
    rw [atoiVal_digits a h0 h1] at h
    exact h
theorem ful10 (a : Int) (h0 : 0 ≤ a) (h1 : a ≤ 1099511627776) (b off cap : Nat) (s : ByteArray) (w : World) (hE : Env w) (hs : s.size ≤ 140737488351232) (hc : w.cell? ⟨b, off, none⟩ = some (.string (bs (Lib.decDigits a.toNat)))) :
    Calls Tryd.prog 6 #[.agg #[.int .i64 10, .slice (some ⟨b, off, none⟩) 1 cap], .string s] w fun e w' => e = .returned (.bool (decide ((s.size : Int) = a))) ∧ Below w.heap.size w w' :=
  ful_one 10 _ b off cap s _ w hE (by decide) (by decide) hc fun bp o b off cap n d1 w' hE' hd hn c0 c1 c2 => by
    have h := check10 bp o b off cap n s (bs (Lib.decDigits a.toNat)) d1 w' hE' hs (Nat.le_trans (decDigits_size _ (by omega)) (by decide)) hd hn c0 c1 c2
    rw [atoiVal_digits a h0 h1] at h
    exact h
theorem ful12 (a n : Int) (h0 : 0 ≤ a) (h1 : a ≤ 1099511627776) (n0 : 0 ≤ n) (n1 : n ≤ 1099511627776) (b off cap : Nat) (w : World) (hE : Env w) (hc : w.cell? ⟨b, off, none⟩ = some (.string (bs (Lib.decDigits a.toNat)))) :
    Calls Tryd.prog 6 #[.agg #[.int .i64 12, .slice (some ⟨b, off, none⟩) 1 cap], .string (bs (Lib.decDigits n.toNat))] w fun e w' => e = .returned (.bool (decide (a ≤ n))) ∧ Below w.heap.size w w' :=
  ful_one 12 _ b off cap _ _ w hE (by decide) (by decide) hc fun bp o b off cap m d1 w' hE' hd hn c0 c1 c2 => by
    have h := check12 bp o b off cap m (bs (Lib.decDigits n.toNat)) (bs (Lib.decDigits a.toNat)) d1 w' hE' (Nat.le_trans (decDigits_size _ (by omega)) (by decide)) (Nat.le_trans (decDigits_size _ (by omega)) (by decide)) hd hn c0 c1 c2
    rw [atoiVal_digits a h0 h1, atoiVal_digits n n0 n1, atoiOk_digits n n0 n1, Bool.and_true] at h
    exact h
theorem ful13 (a n : Int) (h0 : 0 ≤ a) (h1 : a ≤ 1099511627776) (n0 : 0 ≤ n) (n1 : n ≤ 1099511627776) (b off cap : Nat) (w : World) (hE : Env w) (hc : w.cell? ⟨b, off, none⟩ = some (.string (bs (Lib.decDigits a.toNat)))) :
    Calls Tryd.prog 6 #[.agg #[.int .i64 13, .slice (some ⟨b, off, none⟩) 1 cap], .string (bs (Lib.decDigits n.toNat))] w fun e w' => e = .returned (.bool (decide (n ≤ a))) ∧ Below w.heap.size w w' :=
  ful_one 13 _ b off cap _ _ w hE (by decide) (by decide) hc fun bp o b off cap m d1 w' hE' hd hn c0 c1 c2 => by
    have h := check13 bp o b off cap m (bs (Lib.decDigits n.toNat)) (bs (Lib.decDigits a.toNat)) d1 w' hE' (Nat.le_trans (decDigits_size _ (by omega)) (by decide)) (Nat.le_trans (decDigits_size _ (by omega)) (by decide)) hd hn c0 c1 c2
    rw [atoiVal_digits a h0 h1, atoiVal_digits n n0 n1, atoiOk_digits n n0 n1, Bool.and_true] at h
    exact h
theorem ful11 (a c : Int) (h0 : 0 ≤ a) (h1 : a ≤ 1099511627776) (c0 : 0 ≤ c) (c1 : c ≤ 1099511627776) (b off cap : Nat) (s : ByteArray) (w : World) (hE : Env w) (hs : s.size ≤ 140737488351232) (hc : w.cell? ⟨b, off, none⟩ = some (.string (bs (Lib.decDigits a.toNat)))) (hc' : w.cell? ⟨b, off + 1, none⟩ = some (.string (bs (Lib.decDigits c.toNat)))) :
    Calls Tryd.prog 6 #[.agg #[.int .i64 11, .slice (some ⟨b, off, none⟩) 2 cap], .string s] w fun e w' => e = .returned (.bool (decide (a ≤ (s.size : Int)) && decide ((s.size : Int) ≤ c))) ∧ Below w.heap.size w w' :=
  fulfils_some 11 b off 2 cap s [bs (Lib.decDigits a.toNat), bs (Lib.decDigits c.toNat)] w hE (by decide) (by decide) (by decide) rfl (by decide) (cells_two hc hc') _
    (fun p g cap' w' hb e0 e1 hcs => by
      have h := check11 p 0 g 0 cap' 2 s (bs (Lib.decDigits a.toNat)) (bs (Lib.decDigits c.toNat)) w' (hE.below hb hE.size) hs (Nat.le_trans (decDigits_size _ (by omega)) (by decide)) (Nat.le_trans (decDigits_size _ (by omega)) (by decide)) (by decide) e0 e1 (hcs 0 (by simp)) (hcs 1 (by simp))
      rw [atoiVal_digits a h0 h1, atoiVal_digits c c0 c1] at h
      exact h)
theorem ful14 (a c n : Int) (h0 : 0 ≤ a) (h1 : a ≤ 1099511627776) (c0 : 0 ≤ c) (c1 : c ≤ 1099511627776) (n0 : 0 ≤ n) (n1 : n ≤ 1099511627776) (b off cap : Nat) (w : World) (hE : Env w) (hc : w.cell? ⟨b, off, none⟩ = some (.string (bs (Lib.decDigits a.toNat)))) (hc' : w.cell? ⟨b, off + 1, none⟩ = some (.string (bs (Lib.decDigits c.toNat)))) :
    Calls Tryd.prog 6 #[.agg #[.int .i64 14, .slice (some ⟨b, off, none⟩) 2 cap], .string (bs (Lib.decDigits n.toNat))] w fun e w' => e = .returned (.bool (decide (a ≤ n) && decide (n ≤ c))) ∧ Below w.heap.size w w' :=
  fulfils_some 14 b off 2 cap _ [bs (Lib.decDigits a.toNat), bs (Lib.decDigits c.toNat)] w hE (by decide) (by decide) (by decide) rfl (by decide) (cells_two hc hc') _
    (fun p g cap' w' hb e0 e1 hcs => by
      have h := check14 p 0 g 0 cap' 2 (bs (Lib.decDigits n.toNat)) (bs (Lib.decDigits a.toNat)) (bs (Lib.decDigits c.toNat)) w' (hE.below hb hE.size) (Nat.le_trans (decDigits_size _ (by omega)) (by decide)) (Nat.le_trans (decDigits_size _ (by omega)) (by decide)) (Nat.le_trans (decDigits_size _ (by omega)) (by decide)) (by decide) e0 e1 (hcs 0 (by simp)) (hcs 1 (by simp))
      rw [atoiVal_digits a h0 h1, atoiVal_digits c c0 c1, atoiVal_digits n n0 n1, atoiOk_digits n n0 n1, Bool.and_true] at h
      exact h)
theorem ful2 (s : ByteArray) (w : World) (hE : Env w) (hs : s.size ≤ 140737488351232) :
    Calls Tryd.prog 6 #[.agg #[.int .i64 2, .slice none 0 0], .string s] w fun e w' => e = .returned (.bool (atoiOk s.data.toList)) ∧ Below w.heap.size w w' :=
  fulfils_nil 2 s w hE (by decide) (by decide) _ (fun p w' hb c0 => check2 p 0 .nilIface s w' (hE.below hb hE.size) hs c0)
end Go.Proofs.YtiebedcldbmlhaaDoor
