/-
  The special names of floats. Conditions: a text within the reach.
-/
import Derived.Test.YtiebedcldbmlhaaDoorFL
namespace Go.Proofs.YtiebedcldbmlhaaDoor.Fl
open Go.RowKit
set_option linter.unusedVariables false

theorem bits64_run (n : Int) (w : World) : (callFunc 57 #[.int .u64 n]).run Tryd.prog w = .ok (.value (.float .f64 n.toNat)) w := by
  rw [run_callFunc_extern Tryd.func57 (by kernel_rfl) (by kernel_rfl) (by kernel_rfl) (e := Extern.MathFloatBits.float64frombits) (by rfl)]
  rfl
def Odd64 (fb : Nat) : Prop := fb = 9218868437227405312 ∨ fb = 18442240474082181120 ∨ fb = 9221120237041090561
set_option maxRecDepth 100000 in
theorem inf_pos (w : World) : Calls Tryd.prog 62 #[.int .i64 1] w fun e w' => e = .returned (.float .f64 9218868437227405312) ∧ w' = w := by
  have hb := bits64_run
  go_enter Tryd.func62, Tryd.ntmps62
  go_wp2_with fail
  go_ret
  exact ⟨rfl, rfl⟩
set_option maxRecDepth 100000 in
theorem inf_neg (w : World) : Calls Tryd.prog 62 #[.int .i64 (-1)] w fun e w' => e = .returned (.float .f64 18442240474082181120) ∧ w' = w := by
  have hb := bits64_run
  go_enter Tryd.func62, Tryd.ntmps62
  go_wp2_with fail
  go_ret
  exact ⟨rfl, rfl⟩
set_option maxRecDepth 100000 in
theorem nan_any (w : World) : Calls Tryd.prog 63 #[] w fun e w' => e = .returned (.float .f64 9221120237041090561) ∧ w' = w := by
  have hb := bits64_run
  go_enter Tryd.func63, Tryd.ntmps63
  go_wp2_with fail
  go_ret
  exact ⟨rfl, rfl⟩

def infinity : List Nat := [105, 110, 102, 105, 110, 105, 116, 121]
/-- How much of a text is the name of the infinite. -/
def inN (l : List Nat) : Nat := if cpl l infinity = 8 then 8 else if 3 ≤ cpl l infinity then 3 else 0
theorem inN_8 {l : List Nat} {n : Nat} (hn : n = cpl l infinity) (h : n = 8) : inN l = 8 := by unfold inN; rw [← hn, if_pos h]
theorem inN_3 {l : List Nat} {n : Nat} (hn : n = cpl l infinity) (h1 : 3 ≤ n) (h2 : n < 8) : inN l = 3 := by unfold inN; rw [← hn, if_neg (by omega), if_pos h1]
theorem inN_0 {l : List Nat} {n : Nat} (hn : n = cpl l infinity) (h1 : n < 3) : inN l = 0 := by unfold inN; rw [← hn, if_neg (by omega), if_neg (by omega)]
/-- special -/
def spN : List Nat → Option Nat
  | [] => none
  | c :: r =>
    if c = 43 ∨ c = 45 then (if inN r = 0 then none else some (1 + inN r))
    else if c = 105 ∨ c = 73 then (if inN (c :: r) = 0 then none else some (inN (c :: r)))
    else if c = 110 ∨ c = 78 then (if cpl (c :: r) [110, 97, 110] = 3 then some 3 else none)
    else none
def SpIs (x : Option Nat) (e : Ending) : Prop :=
  match x with
  | some k => ∃ fb, Odd64 fb ∧ e = .returned (.tuple #[.float .f64 fb, .int .i64 k, .bool true])
  | none => e = .returned (.tuple #[.float .f64 0, .int .i64 0, .bool false])
def SpPost (l : List Nat) (w : World) (e : Ending) (w' : World) : Prop := SpIs (spN l) e ∧ w' = w
theorem sp_some {l : List Nat} {w : World} {e : Ending} {k fb : Nat} (h : spN l = some k) (hf : Odd64 fb) (he : e = .returned (.tuple #[.float .f64 fb, .int .i64 k, .bool true])) : SpPost l w e w := by
  refine ⟨?_, rfl⟩
  rw [h]; exact ⟨fb, hf, he⟩
theorem sp_none {l : List Nat} {w : World} {e : Ending} (h : spN l = none) (he : e = .returned (.tuple #[.float .f64 0, .int .i64 0, .bool false])) : SpPost l w e w := by
  refine ⟨?_, rfl⟩
  rw [h]; exact he

set_option maxHeartbeats 2000000 in
set_option maxRecDepth 100000 in
theorem special_any (s : ByteArray) (w : World) (hs : s.size ≤ 1000000000) : Calls Tryd.prog 47 #[.string s] w (SpPost (ns s) w) := by
  by_cases hz : s.size = 0
  · have HN := Lib.hid (show spN (ns s) = none by
      have : ns s = [] := List.eq_nil_of_length_eq_zero (by rw [ns_len]; exact hz)
      rw [this]; rfl)
    have hzi : ((s.size : Int) == 0) = true := by rw [hz]; rfl
    clear hz
    go_enter Tryd.func47, Tryd.ntmps47
    go_wp2_with fail
    go_ret3
    exact sp_none HN.out rfl
  have hpos : 0 < s.size := Nat.pos_of_ne_zero hz
  have hzi : ((s.size : Int) == 0) = false := beq_eq_false_iff_ne.2 (by omega)
  have hcons := ns_drop s 0 hpos
  rw [List.drop_zero, Nat.zero_add] at hcons
  have htl := ns_tail s 1
  obtain ⟨r, hr⟩ : ∃ r, r = (ns s).drop 1 := ⟨_, rfl⟩
  rw [← hr] at hcons htl
  obtain ⟨c, hc⟩ : ∃ c : Nat, (s[0]'hpos).toNat = c := ⟨_, rfl⟩
  rw [hc] at hcons
  have HCO := Lib.hid hcons
  have HTL := Lib.hid htl
  have s1 : (1 : Int) ≤ (s.size : Int) := by omega
  clear hcons htl hr hz
  by_cases h43 : c = 43
  · subst h43
    have HSP := Lib.hid (show spN (ns s) = if inN r = 0 then none else some (1 + inN r) by rw [HCO.out]; rfl)
    obtain ⟨n, hn⟩ : ∃ n, n = cpl r infinity := ⟨_, rfl⟩
    have hn8 : n ≤ 8 := by rw [hn]; exact (cpl_le _ _).2
    have HN := Lib.hid hn
    have hcall := fun w => cpl_any (s.extract 1 s.size) ⟨#[105, 110, 102, 105, 110, 105, 116, 121]⟩ w (by rw [ByteArray.size_extract]; omega) (by decide)
    rw [HTL.out, show ns ⟨#[105, 110, 102, 105, 110, 105, 116, 121]⟩ = infinity from rfl, ← hn] at hcall
    have HC := Lib.hid hcall
    clear hcall hn
    go_enter Tryd.func47, Tryd.ntmps47
    go_wp2_with fail
    refine (HC.out _).mono ?_
    rintro e1 w1 ⟨rfl, rfl⟩
    rcases (show n = 8 ∨ (3 < n ∧ n < 8) ∨ n = 3 ∨ n < 3 by omega) with h | h | h | h
    · subst h
      have HS := Lib.hid (HSP.out.trans (by rw [inN_8 HN.out rfl]; rfl : _ = some 9))
      go_wp2_with fail
      refine (inf_pos _).mono ?_
      rintro e2 w2 ⟨rfl, rfl⟩
      go_wp2_with fail
      go_ret3
      exact sp_some HS.out (.inl rfl) rfl
    · have g1 : decide ((3 : Int) < (n : Int)) = true := decide_eq_true (by omega)
      have g2 : decide ((n : Int) < 8) = true := decide_eq_true (by omega)
      have HS := Lib.hid (HSP.out.trans (by rw [inN_3 HN.out (by omega) (by omega)]; rfl : _ = some 4))
      go_wp2_with fail
      refine (inf_pos _).mono ?_
      rintro e2 w2 ⟨rfl, rfl⟩
      go_wp2_with fail
      go_ret3
      exact sp_some HS.out (.inl rfl) rfl
    · subst h
      have HS := Lib.hid (HSP.out.trans (by rw [inN_3 HN.out (by omega) (by omega)]; rfl : _ = some 4))
      go_wp2_with fail
      refine (inf_pos _).mono ?_
      rintro e2 w2 ⟨rfl, rfl⟩
      go_wp2_with fail
      go_ret3
      exact sp_some HS.out (.inl rfl) rfl
    · have g1 : decide ((3 : Int) < (n : Int)) = false := decide_eq_false (by omega)
      have g3 : ((n : Int) == 3) = false := by simp; omega
      have g4 : ((n : Int) == 8) = false := by simp; omega
      have HS := Lib.hid (HSP.out.trans (by rw [inN_0 HN.out (by omega)]; rfl : _ = none))
      go_wp2_with fail
      go_ret3
      exact sp_none HS.out rfl
  have t43 : ((c : Int) == 43) = false := by simp; omega
  by_cases h45 : c = 45
  · subst h45
    have HSP := Lib.hid (show spN (ns s) = if inN r = 0 then none else some (1 + inN r) by rw [HCO.out]; rfl)
    obtain ⟨n, hn⟩ : ∃ n, n = cpl r infinity := ⟨_, rfl⟩
    have hn8 : n ≤ 8 := by rw [hn]; exact (cpl_le _ _).2
    have HN := Lib.hid hn
    have hcall := fun w => cpl_any (s.extract 1 s.size) ⟨#[105, 110, 102, 105, 110, 105, 116, 121]⟩ w (by rw [ByteArray.size_extract]; omega) (by decide)
    rw [HTL.out, show ns ⟨#[105, 110, 102, 105, 110, 105, 116, 121]⟩ = infinity from rfl, ← hn] at hcall
    have HC := Lib.hid hcall
    clear hcall hn
    go_enter Tryd.func47, Tryd.ntmps47
    go_wp2_with fail
    refine (HC.out _).mono ?_
    rintro e1 w1 ⟨rfl, rfl⟩
    rcases (show n = 8 ∨ (3 < n ∧ n < 8) ∨ n = 3 ∨ n < 3 by omega) with h | h | h | h
    · subst h
      have HS := Lib.hid (HSP.out.trans (by rw [inN_8 HN.out rfl]; rfl : _ = some 9))
      go_wp2_with fail
      refine (inf_neg _).mono ?_
      rintro e2 w2 ⟨rfl, rfl⟩
      go_wp2_with fail
      go_ret3
      exact sp_some HS.out (.inr (.inl rfl)) rfl
    · have g1 : decide ((3 : Int) < (n : Int)) = true := decide_eq_true (by omega)
      have g2 : decide ((n : Int) < 8) = true := decide_eq_true (by omega)
      have HS := Lib.hid (HSP.out.trans (by rw [inN_3 HN.out (by omega) (by omega)]; rfl : _ = some 4))
      go_wp2_with fail
      refine (inf_neg _).mono ?_
      rintro e2 w2 ⟨rfl, rfl⟩
      go_wp2_with fail
      go_ret3
      exact sp_some HS.out (.inr (.inl rfl)) rfl
    · subst h
      have HS := Lib.hid (HSP.out.trans (by rw [inN_3 HN.out (by omega) (by omega)]; rfl : _ = some 4))
      go_wp2_with fail
      refine (inf_neg _).mono ?_
      rintro e2 w2 ⟨rfl, rfl⟩
      go_wp2_with fail
      go_ret3
      exact sp_some HS.out (.inr (.inl rfl)) rfl
    · have g1 : decide ((3 : Int) < (n : Int)) = false := decide_eq_false (by omega)
      have g3 : ((n : Int) == 3) = false := by simp; omega
      have g4 : ((n : Int) == 8) = false := by simp; omega
      have HS := Lib.hid (HSP.out.trans (by rw [inN_0 HN.out (by omega)]; rfl : _ = none))
      go_wp2_with fail
      go_ret3
      exact sp_none HS.out rfl
  have t45 : ((c : Int) == 45) = false := by simp; omega
  by_cases h105 : c = 105
  · subst h105
    have HSP := Lib.hid (show spN (ns s) = if inN (105 :: r) = 0 then none else some (inN (105 :: r)) by rw [HCO.out]; rfl)
    obtain ⟨n, hn⟩ : ∃ n, n = cpl (105 :: r) infinity := ⟨_, rfl⟩
    have hn8 : n ≤ 8 := by rw [hn]; exact (cpl_le _ _).2
    have HN := Lib.hid hn
    have hcall := fun w => cpl_any s ⟨#[105, 110, 102, 105, 110, 105, 116, 121]⟩ w (by omega) (by decide)
    rw [HCO.out, show ns ⟨#[105, 110, 102, 105, 110, 105, 116, 121]⟩ = infinity from rfl, ← hn] at hcall
    have HC := Lib.hid hcall
    clear hcall hn
    go_enter Tryd.func47, Tryd.ntmps47
    go_wp2_with fail
    refine (HC.out _).mono ?_
    rintro e1 w1 ⟨rfl, rfl⟩
    rcases (show n = 8 ∨ (3 < n ∧ n < 8) ∨ n = 3 ∨ n < 3 by omega) with h | h | h | h
    · subst h
      have HS := Lib.hid (HSP.out.trans (by rw [inN_8 HN.out rfl]; rfl : _ = some 8))
      go_wp2_with fail
      refine (inf_pos _).mono ?_
      rintro e2 w2 ⟨rfl, rfl⟩
      go_wp2_with fail
      go_ret3
      exact sp_some HS.out (.inl rfl) rfl
    · have g1 : decide ((3 : Int) < (n : Int)) = true := decide_eq_true (by omega)
      have g2 : decide ((n : Int) < 8) = true := decide_eq_true (by omega)
      have HS := Lib.hid (HSP.out.trans (by rw [inN_3 HN.out (by omega) (by omega)]; rfl : _ = some 3))
      go_wp2_with fail
      refine (inf_pos _).mono ?_
      rintro e2 w2 ⟨rfl, rfl⟩
      go_wp2_with fail
      go_ret3
      exact sp_some HS.out (.inl rfl) rfl
    · subst h
      have HS := Lib.hid (HSP.out.trans (by rw [inN_3 HN.out (by omega) (by omega)]; rfl : _ = some 3))
      go_wp2_with fail
      refine (inf_pos _).mono ?_
      rintro e2 w2 ⟨rfl, rfl⟩
      go_wp2_with fail
      go_ret3
      exact sp_some HS.out (.inl rfl) rfl
    · have g1 : decide ((3 : Int) < (n : Int)) = false := decide_eq_false (by omega)
      have g3 : ((n : Int) == 3) = false := by simp; omega
      have g4 : ((n : Int) == 8) = false := by simp; omega
      have HS := Lib.hid (HSP.out.trans (by rw [inN_0 HN.out (by omega)]; rfl : _ = none))
      go_wp2_with fail
      go_ret3
      exact sp_none HS.out rfl
  have t105 : ((c : Int) == 105) = false := by simp; omega
  by_cases h73 : c = 73
  · subst h73
    have HSP := Lib.hid (show spN (ns s) = if inN (73 :: r) = 0 then none else some (inN (73 :: r)) by rw [HCO.out]; rfl)
    obtain ⟨n, hn⟩ : ∃ n, n = cpl (73 :: r) infinity := ⟨_, rfl⟩
    have hn8 : n ≤ 8 := by rw [hn]; exact (cpl_le _ _).2
    have HN := Lib.hid hn
    have hcall := fun w => cpl_any s ⟨#[105, 110, 102, 105, 110, 105, 116, 121]⟩ w (by omega) (by decide)
    rw [HCO.out, show ns ⟨#[105, 110, 102, 105, 110, 105, 116, 121]⟩ = infinity from rfl, ← hn] at hcall
    have HC := Lib.hid hcall
    clear hcall hn
    go_enter Tryd.func47, Tryd.ntmps47
    go_wp2_with fail
    refine (HC.out _).mono ?_
    rintro e1 w1 ⟨rfl, rfl⟩
    rcases (show n = 8 ∨ (3 < n ∧ n < 8) ∨ n = 3 ∨ n < 3 by omega) with h | h | h | h
    · subst h
      have HS := Lib.hid (HSP.out.trans (by rw [inN_8 HN.out rfl]; rfl : _ = some 8))
      go_wp2_with fail
      refine (inf_pos _).mono ?_
      rintro e2 w2 ⟨rfl, rfl⟩
      go_wp2_with fail
      go_ret3
      exact sp_some HS.out (.inl rfl) rfl
    · have g1 : decide ((3 : Int) < (n : Int)) = true := decide_eq_true (by omega)
      have g2 : decide ((n : Int) < 8) = true := decide_eq_true (by omega)
      have HS := Lib.hid (HSP.out.trans (by rw [inN_3 HN.out (by omega) (by omega)]; rfl : _ = some 3))
      go_wp2_with fail
      refine (inf_pos _).mono ?_
      rintro e2 w2 ⟨rfl, rfl⟩
      go_wp2_with fail
      go_ret3
      exact sp_some HS.out (.inl rfl) rfl
    · subst h
      have HS := Lib.hid (HSP.out.trans (by rw [inN_3 HN.out (by omega) (by omega)]; rfl : _ = some 3))
      go_wp2_with fail
      refine (inf_pos _).mono ?_
      rintro e2 w2 ⟨rfl, rfl⟩
      go_wp2_with fail
      go_ret3
      exact sp_some HS.out (.inl rfl) rfl
    · have g1 : decide ((3 : Int) < (n : Int)) = false := decide_eq_false (by omega)
      have g3 : ((n : Int) == 3) = false := by simp; omega
      have g4 : ((n : Int) == 8) = false := by simp; omega
      have HS := Lib.hid (HSP.out.trans (by rw [inN_0 HN.out (by omega)]; rfl : _ = none))
      go_wp2_with fail
      go_ret3
      exact sp_none HS.out rfl
  have t73 : ((c : Int) == 73) = false := by simp; omega
  by_cases h110 : c = 110
  · subst h110
    have HSP := Lib.hid (show spN (ns s) = if cpl (110 :: r) [110, 97, 110] = 3 then some 3 else none by rw [HCO.out]; rfl)
    obtain ⟨n, hn⟩ : ∃ n, n = cpl (110 :: r) [110, 97, 110] := ⟨_, rfl⟩
    have HN := Lib.hid hn
    have hcall := fun w => cpl_any s ⟨#[110, 97, 110]⟩ w (by omega) (by decide)
    rw [HCO.out, show ns ⟨#[110, 97, 110]⟩ = [110, 97, 110] from rfl, ← hn] at hcall
    have HC := Lib.hid hcall
    clear hcall hn
    by_cases h3 : n = 3
    · subst h3
      have HS := Lib.hid (HSP.out.trans (by rw [← HN.out]; rfl : _ = some 3))
      go_enter Tryd.func47, Tryd.ntmps47
      go_wp2_with fail
      refine (HC.out _).mono ?_
      rintro e1 w1 ⟨rfl, rfl⟩
      go_wp2_with fail
      refine (nan_any _).mono ?_
      rintro e2 w2 ⟨rfl, rfl⟩
      go_wp2_with fail
      go_ret3
      exact sp_some HS.out (.inr (.inr rfl)) rfl
    · have g3 : ((n : Int) == 3) = false := by simp; omega
      have HS := Lib.hid (HSP.out.trans (by rw [← HN.out, if_neg h3] : _ = none))
      go_enter Tryd.func47, Tryd.ntmps47
      go_wp2_with fail
      refine (HC.out _).mono ?_
      rintro e1 w1 ⟨rfl, rfl⟩
      go_wp2_with fail
      go_ret3
      exact sp_none HS.out rfl
  have t110 : ((c : Int) == 110) = false := by simp; omega
  by_cases h78 : c = 78
  · subst h78
    have HSP := Lib.hid (show spN (ns s) = if cpl (78 :: r) [110, 97, 110] = 3 then some 3 else none by rw [HCO.out]; rfl)
    obtain ⟨n, hn⟩ : ∃ n, n = cpl (78 :: r) [110, 97, 110] := ⟨_, rfl⟩
    have HN := Lib.hid hn
    have hcall := fun w => cpl_any s ⟨#[110, 97, 110]⟩ w (by omega) (by decide)
    rw [HCO.out, show ns ⟨#[110, 97, 110]⟩ = [110, 97, 110] from rfl, ← hn] at hcall
    have HC := Lib.hid hcall
    clear hcall hn
    by_cases h3 : n = 3
    · subst h3
      have HS := Lib.hid (HSP.out.trans (by rw [← HN.out]; rfl : _ = some 3))
      go_enter Tryd.func47, Tryd.ntmps47
      go_wp2_with fail
      refine (HC.out _).mono ?_
      rintro e1 w1 ⟨rfl, rfl⟩
      go_wp2_with fail
      refine (nan_any _).mono ?_
      rintro e2 w2 ⟨rfl, rfl⟩
      go_wp2_with fail
      go_ret3
      exact sp_some HS.out (.inr (.inr rfl)) rfl
    · have g3 : ((n : Int) == 3) = false := by simp; omega
      have HS := Lib.hid (HSP.out.trans (by rw [← HN.out, if_neg h3] : _ = none))
      go_enter Tryd.func47, Tryd.ntmps47
      go_wp2_with fail
      refine (HC.out _).mono ?_
      rintro e1 w1 ⟨rfl, rfl⟩
      go_wp2_with fail
      go_ret3
      exact sp_none HS.out rfl
  have t78 : ((c : Int) == 78) = false := by simp; omega
  have HS := Lib.hid (show spN (ns s) = none by
    rw [HCO.out]
    show (if c = 43 ∨ c = 45 then (if inN r = 0 then none else some (1 + inN r)) else if c = 105 ∨ c = 73 then (if inN (c :: r) = 0 then none else some (inN (c :: r))) else if c = 110 ∨ c = 78 then (if cpl (c :: r) [110, 97, 110] = 3 then some 3 else none) else none) = none
    rw [if_neg (by omega), if_neg (by omega), if_neg (by omega)])
  go_enter Tryd.func47, Tryd.ntmps47
  go_wp2_with fail
  go_ret3
  exact sp_none HS.out rfl
end Go.Proofs.YtiebedcldbmlhaaDoor.Fl
