/-
  Joined: The special names of floats; atof32exact: some float, and that it is exact only where the number is small; A new decimal's cells; conversions between floats.
  Conditions: each law's own.
-/
import Derived.Test.YtiebedcldbmlhaaGreatDoorK07
namespace Go.Proofs.YtiebedcldbmlhaaGreatDoor.Fl
open Go.RowKit
set_option linter.unusedVariables false

theorem bits64_run (n : Int) (w : World) : (callFunc 121 #[.int .u64 n]).run Tryz.prog w = .ok (.value (.float .f64 n.toNat)) w := by
  rw [run_callFunc_extern Tryz.func121 (by kernel_rfl) (by kernel_rfl) (by kernel_rfl) (e := Extern.MathFloatBits.float64frombits) (by rfl)]
  rfl
def Odd64 (fb : Nat) : Prop := fb = 9218868437227405312 ∨ fb = 18442240474082181120 ∨ fb = 9221120237041090561
set_option maxRecDepth 100000 in
theorem inf_pos (w : World) : Calls Tryz.prog 129 #[.int .i64 1] w fun e w' => e = .returned (.float .f64 9218868437227405312) ∧ w' = w := by
  have hb := bits64_run
  go_enter Tryz.func129, Tryz.ntmps129
  go_wp2_with fail
  go_ret
  exact ⟨rfl, rfl⟩
set_option maxRecDepth 100000 in
theorem inf_neg (w : World) : Calls Tryz.prog 129 #[.int .i64 (-1)] w fun e w' => e = .returned (.float .f64 18442240474082181120) ∧ w' = w := by
  have hb := bits64_run
  go_enter Tryz.func129, Tryz.ntmps129
  go_wp2_with fail
  go_ret
  exact ⟨rfl, rfl⟩
set_option maxRecDepth 100000 in
theorem nan_any (w : World) : Calls Tryz.prog 130 #[] w fun e w' => e = .returned (.float .f64 9221120237041090561) ∧ w' = w := by
  have hb := bits64_run
  go_enter Tryz.func130, Tryz.ntmps130
  go_wp2_with fail
  go_ret
  exact ⟨rfl, rfl⟩

def infinity : List Nat := [105, 110, 102, 105, 110, 105, 116, 121]
/-- How much of a text is the name of the infinite. -/
def inN (l : List Nat) : Nat := if cpl l infinity = 8 then 8 else if 3 ≤ cpl l infinity then 3 else 0
theorem inN_8 {l : List Nat} {n : Nat} (hn : n = cpl l infinity) (h : n = 8) : inN l = 8 := by unfold inN; rw [← hn, if_pos h]
theorem inN_3 {l : List Nat} {n : Nat} (hn : n = cpl l infinity) (h1 : 3 ≤ n) (h2 : n < 8) : inN l = 3 := by unfold inN; rw [← hn, if_neg (by omega), if_pos h1]
theorem inN_0 {l : List Nat} {n : Nat} (hn : n = cpl l infinity) (h1 : n < 3) : inN l = 0 := by unfold inN; rw [← hn, if_neg (by omega), if_neg (by omega)]
/-- special -/
def spN : List Nat → Option Nat
  | [] => none
  | c :: r =>
    if c = 43 ∨ c = 45 then (if inN r = 0 then none else some (1 + inN r))
    else if c = 105 ∨ c = 73 then (if inN (c :: r) = 0 then none else some (inN (c :: r)))
    else if c = 110 ∨ c = 78 then (if cpl (c :: r) [110, 97, 110] = 3 then some 3 else none)
    else none
def SpIs (x : Option Nat) (e : Ending) : Prop :=
  match x with
  | some k => ∃ fb, Odd64 fb ∧ e = .returned (.tuple #[.float .f64 fb, .int .i64 k, .bool true])
  | none => e = .returned (.tuple #[.float .f64 0, .int .i64 0, .bool false])
def SpPost (l : List Nat) (w : World) (e : Ending) (w' : World) : Prop := SpIs (spN l) e ∧ w' = w
theorem sp_some {l : List Nat} {w : World} {e : Ending} {k fb : Nat} (h : spN l = some k) (hf : Odd64 fb) (he : e = .returned (.tuple #[.float .f64 fb, .int .i64 k, .bool true])) : SpPost l w e w := by
  refine ⟨?_, rfl⟩
  rw [h]; exact ⟨fb, hf, he⟩
theorem sp_none {l : List Nat} {w : World} {e : Ending} (h : spN l = none) (he : e = .returned (.tuple #[.float .f64 0, .int .i64 0, .bool false])) : SpPost l w e w := by
  refine ⟨?_, rfl⟩
  rw [h]; exact he

set_option maxHeartbeats 2000000 in
set_option maxRecDepth 100000 in
theorem special_any (s : ByteArray) (w : World) (hs : s.size ≤ 1000000000) : Calls Tryz.prog 111 #[.string s] w (SpPost (ns s) w) := by
  by_cases hz : s.size = 0
  · have HN := Lib.hid (show spN (ns s) = none by
      have : ns s = [] := List.eq_nil_of_length_eq_zero (by rw [ns_len]; exact hz)
      rw [this]; rfl)
    have hzi : ((s.size : Int) == 0) = true := by rw [hz]; rfl
    clear hz
    go_enter Tryz.func111, Tryz.ntmps111
    go_wp2_with fail
    go_ret3
    exact sp_none HN.out rfl
  have hpos : 0 < s.size := Nat.pos_of_ne_zero hz
  have hzi : ((s.size : Int) == 0) = false := beq_eq_false_iff_ne.2 (by omega)
  have hcons := ns_drop s 0 hpos
  rw [List.drop_zero, Nat.zero_add] at hcons
  have htl := ns_tail s 1
  obtain ⟨r, hr⟩ : ∃ r, r = (ns s).drop 1 := ⟨_, rfl⟩
  rw [← hr] at hcons htl
  obtain ⟨c, hc⟩ : ∃ c : Nat, (s[0]'hpos).toNat = c := ⟨_, rfl⟩
  rw [hc] at hcons
  have HCO := Lib.hid hcons
  have HTL := Lib.hid htl
  have s1 : (1 : Int) ≤ (s.size : Int) := by omega
  clear hcons htl hr hz
  by_cases h43 : c = 43
  · subst h43
    have HSP := Lib.hid (show spN (ns s) = if inN r = 0 then none else some (1 + inN r) by rw [HCO.out]; rfl)
    obtain ⟨n, hn⟩ : ∃ n, n = cpl r infinity := ⟨_, rfl⟩
    have hn8 : n ≤ 8 := by rw [hn]; exact (cpl_le _ _).2
    have HN := Lib.hid hn
    have hcall := fun w => cpl_any (s.extract 1 s.size) ⟨#[105, 110, 102, 105, 110, 105, 116, 121]⟩ w (by rw [ByteArray.size_extract]; omega) (by decide)
    rw [HTL.out, show ns ⟨#[105, 110, 102, 105, 110, 105, 116, 121]⟩ = infinity from rfl, ← hn] at hcall
    have HC := Lib.hid hcall
    clear hcall hn
    go_enter Tryz.func111, Tryz.ntmps111
    go_wp2_with fail
    refine (HC.out _).mono ?_
    rintro e1 w1 ⟨rfl, rfl⟩
    rcases (show n = 8 ∨ (3 < n ∧ n < 8) ∨ n = 3 ∨ n < 3 by omega) with h | h | h | h
    · subst h
      have HS := Lib.hid (HSP.out.trans (by rw [inN_8 HN.out rfl]; rfl : _ = some 9))
      go_wp2_with fail
      refine (inf_pos _).mono ?_
      rintro e2 w2 ⟨rfl, rfl⟩
      go_wp2_with fail
      go_ret3
      exact sp_some HS.out (.inl rfl) rfl
    · have g1 : decide ((3 : Int) < (n : Int)) = true := decide_eq_true (by omega)
      have g2 : decide ((n : Int) < 8) = true := decide_eq_true (by omega)
      have HS := Lib.hid (HSP.out.trans (by rw [inN_3 HN.out (by omega) (by omega)]; rfl : _ = some 4))
      go_wp2_with fail
      refine (inf_pos _).mono ?_
      rintro e2 w2 ⟨rfl, rfl⟩
      go_wp2_with fail
      go_ret3
      exact sp_some HS.out (.inl rfl) rfl
    · subst h
      have HS := Lib.hid (HSP.out.trans (by rw [inN_3 HN.out (by omega) (by omega)]; rfl : _ = some 4))
      go_wp2_with fail
      refine (inf_pos _).mono ?_
      rintro e2 w2 ⟨rfl, rfl⟩
      go_wp2_with fail
      go_ret3
      exact sp_some HS.out (.inl rfl) rfl
    · have g1 : decide ((3 : Int) < (n : Int)) = false := decide_eq_false (by omega)
      have g3 : ((n : Int) == 3) = false := by simp; omega
      have g4 : ((n : Int) == 8) = false := by simp; omega
      have HS := Lib.hid (HSP.out.trans (by rw [inN_0 HN.out (by omega)]; rfl : _ = none))
      go_wp2_with fail
      go_ret3
      exact sp_none HS.out rfl
  have t43 : ((c : Int) == 43) = false := by simp; omega
  by_cases h45 : c = 45
  · subst h45
    have HSP := Lib.hid (show spN (ns s) = if inN r = 0 then none else some (1 + inN r) by rw [HCO.out]; rfl)
    obtain ⟨n, hn⟩ : ∃ n, n = cpl r infinity := ⟨_, rfl⟩
    have hn8 : n ≤ 8 := by rw [hn]; exact (cpl_le _ _).2
    have HN := Lib.hid hn
    have hcall := fun w => cpl_any (s.extract 1 s.size) ⟨#[105, 110, 102, 105, 110, 105, 116, 121]⟩ w (by rw [ByteArray.size_extract]; omega) (by decide)
    rw [HTL.out, show ns ⟨#[105, 110, 102, 105, 110, 105, 116, 121]⟩ = infinity from rfl, ← hn] at hcall
    have HC := Lib.hid hcall
    clear hcall hn
    go_enter Tryz.func111, Tryz.ntmps111
    go_wp2_with fail
    refine (HC.out _).mono ?_
    rintro e1 w1 ⟨rfl, rfl⟩
    rcases (show n = 8 ∨ (3 < n ∧ n < 8) ∨ n = 3 ∨ n < 3 by omega) with h | h | h | h
    · subst h
      have HS := Lib.hid (HSP.out.trans (by rw [inN_8 HN.out rfl]; rfl : _ = some 9))
      go_wp2_with fail
      refine (inf_neg _).mono ?_
      rintro e2 w2 ⟨rfl, rfl⟩
      go_wp2_with fail
      go_ret3
      exact sp_some HS.out (.inr (.inl rfl)) rfl
    · have g1 : decide ((3 : Int) < (n : Int)) = true := decide_eq_true (by omega)
      have g2 : decide ((n : Int) < 8) = true := decide_eq_true (by omega)
      have HS := Lib.hid (HSP.out.trans (by rw [inN_3 HN.out (by omega) (by omega)]; rfl : _ = some 4))
      go_wp2_with fail
      refine (inf_neg _).mono ?_
      rintro e2 w2 ⟨rfl, rfl⟩
      go_wp2_with fail
      go_ret3
      exact sp_some HS.out (.inr (.inl rfl)) rfl
    · subst h
      have HS := Lib.hid (HSP.out.trans (by rw [inN_3 HN.out (by omega) (by omega)]; rfl : _ = some 4))
      go_wp2_with fail
      refine (inf_neg _).mono ?_
      rintro e2 w2 ⟨rfl, rfl⟩
      go_wp2_with fail
      go_ret3
      exact sp_some HS.out (.inr (.inl rfl)) rfl
    · have g1 : decide ((3 : Int) < (n : Int)) = false := decide_eq_false (by omega)
      have g3 : ((n : Int) == 3) = false := by simp; omega
      have g4 : ((n : Int) == 8) = false := by simp; omega
      have HS := Lib.hid (HSP.out.trans (by rw [inN_0 HN.out (by omega)]; rfl : _ = none))
      go_wp2_with fail
      go_ret3
      exact sp_none HS.out rfl
  have t45 : ((c : Int) == 45) = false := by simp; omega
  by_cases h105 : c = 105
  · subst h105
    have HSP := Lib.hid (show spN (ns s) = if inN (105 :: r) = 0 then none else some (inN (105 :: r)) by rw [HCO.out]; rfl)
    obtain ⟨n, hn⟩ : ∃ n, n = cpl (105 :: r) infinity := ⟨_, rfl⟩
    have hn8 : n ≤ 8 := by rw [hn]; exact (cpl_le _ _).2
    have HN := Lib.hid hn
    have hcall := fun w => cpl_any s ⟨#[105, 110, 102, 105, 110, 105, 116, 121]⟩ w (by omega) (by decide)
    rw [HCO.out, show ns ⟨#[105, 110, 102, 105, 110, 105, 116, 121]⟩ = infinity from rfl, ← hn] at hcall
    have HC := Lib.hid hcall
    clear hcall hn
    go_enter Tryz.func111, Tryz.ntmps111
    go_wp2_with fail
    refine (HC.out _).mono ?_
    rintro e1 w1 ⟨rfl, rfl⟩
    rcases (show n = 8 ∨ (3 < n ∧ n < 8) ∨ n = 3 ∨ n < 3 by omega) with h | h | h | h
    · subst h
      have HS := Lib.hid (HSP.out.trans (by rw [inN_8 HN.out rfl]; rfl : _ = some 8))
      go_wp2_with fail
      refine (inf_pos _).mono ?_
      rintro e2 w2 ⟨rfl, rfl⟩
      go_wp2_with fail
      go_ret3
      exact sp_some HS.out (.inl rfl) rfl
    · have g1 : decide ((3 : Int) < (n : Int)) = true := decide_eq_true (by omega)
      have g2 : decide ((n : Int) < 8) = true := decide_eq_true (by omega)
      have HS := Lib.hid (HSP.out.trans (by rw [inN_3 HN.out (by omega) (by omega)]; rfl : _ = some 3))
      go_wp2_with fail
      refine (inf_pos _).mono ?_
      rintro e2 w2 ⟨rfl, rfl⟩
      go_wp2_with fail
      go_ret3
      exact sp_some HS.out (.inl rfl) rfl
    · subst h
      have HS := Lib.hid (HSP.out.trans (by rw [inN_3 HN.out (by omega) (by omega)]; rfl : _ = some 3))
      go_wp2_with fail
      refine (inf_pos _).mono ?_
      rintro e2 w2 ⟨rfl, rfl⟩
      go_wp2_with fail
      go_ret3
      exact sp_some HS.out (.inl rfl) rfl
    · have g1 : decide ((3 : Int) < (n : Int)) = false := decide_eq_false (by omega)
      have g3 : ((n : Int) == 3) = false := by simp; omega
      have g4 : ((n : Int) == 8) = false := by simp; omega
      have HS := Lib.hid (HSP.out.trans (by rw [inN_0 HN.out (by omega)]; rfl : _ = none))
      go_wp2_with fail
      go_ret3
      exact sp_none HS.out rfl
  have t105 : ((c : Int) == 105) = false := by simp; omega
  by_cases h73 : c = 73
  · subst h73
    have HSP := Lib.hid (show spN (ns s) = if inN (73 :: r) = 0 then none else some (inN (73 :: r)) by rw [HCO.out]; rfl)
    obtain ⟨n, hn⟩ : ∃ n, n = cpl (73 :: r) infinity := ⟨_, rfl⟩
    have hn8 : n ≤ 8 := by rw [hn]; exact (cpl_le _ _).2
    have HN := Lib.hid hn
    have hcall := fun w => cpl_any s ⟨#[105, 110, 102, 105, 110, 105, 116, 121]⟩ w (by omega) (by decide)
    rw [HCO.out, show ns ⟨#[105, 110, 102, 105, 110, 105, 116, 121]⟩ = infinity from rfl, ← hn] at hcall
    have HC := Lib.hid hcall
    clear hcall hn
    go_enter Tryz.func111, Tryz.ntmps111
    go_wp2_with fail
    refine (HC.out _).mono ?_
    rintro e1 w1 ⟨rfl, rfl⟩
    rcases (show n = 8 ∨ (3 < n ∧ n < 8) ∨ n = 3 ∨ n < 3 by omega) with h | h | h | h
    · subst h
      have HS := Lib.hid (HSP.out.trans (by rw [inN_8 HN.out rfl]; rfl : _ = some 8))
      go_wp2_with fail
      refine (inf_pos _).mono ?_
      rintro e2 w2 ⟨rfl, rfl⟩
      go_wp2_with fail
      go_ret3
      exact sp_some HS.out (.inl rfl) rfl
    · have g1 : decide ((3 : Int) < (n : Int)) = true := decide_eq_true (by omega)
      have g2 : decide ((n : Int) < 8) = true := decide_eq_true (by omega)
      have HS := Lib.hid (HSP.out.trans (by rw [inN_3 HN.out (by omega) (by omega)]; rfl : _ = some 3))
      go_wp2_with fail
      refine (inf_pos _).mono ?_
      rintro e2 w2 ⟨rfl, rfl⟩
      go_wp2_with fail
      go_ret3
      exact sp_some HS.out (.inl rfl) rfl
    · subst h
      have HS := Lib.hid (HSP.out.trans (by rw [inN_3 HN.out (by omega) (by omega)]; rfl : _ = some 3))
      go_wp2_with fail
      refine (inf_pos _).mono ?_
      rintro e2 w2 ⟨rfl, rfl⟩
      go_wp2_with fail
      go_ret3
      exact sp_some HS.out (.inl rfl) rfl
    · have g1 : decide ((3 : Int) < (n : Int)) = false := decide_eq_false (by omega)
      have g3 : ((n : Int) == 3) = false := by simp; omega
      have g4 : ((n : Int) == 8) = false := by simp; omega
      have HS := Lib.hid (HSP.out.trans (by rw [inN_0 HN.out (by omega)]; rfl : _ = none))
      go_wp2_with fail
      go_ret3
      exact sp_none HS.out rfl
  have t73 : ((c : Int) == 73) = false := by simp; omega
  by_cases h110 : c = 110
  · subst h110
    have HSP := Lib.hid (show spN (ns s) = if cpl (110 :: r) [110, 97, 110] = 3 then some 3 else none by rw [HCO.out]; rfl)
    obtain ⟨n, hn⟩ : ∃ n, n = cpl (110 :: r) [110, 97, 110] := ⟨_, rfl⟩
    have HN := Lib.hid hn
    have hcall := fun w => cpl_any s ⟨#[110, 97, 110]⟩ w (by omega) (by decide)
    rw [HCO.out, show ns ⟨#[110, 97, 110]⟩ = [110, 97, 110] from rfl, ← hn] at hcall
    have HC := Lib.hid hcall
    clear hcall hn
    by_cases h3 : n = 3
    · subst h3
      have HS := Lib.hid (HSP.out.trans (by rw [← HN.out]; rfl : _ = some 3))
      go_enter Tryz.func111, Tryz.ntmps111
      go_wp2_with fail
      refine (HC.out _).mono ?_
      rintro e1 w1 ⟨rfl, rfl⟩
      go_wp2_with fail
      refine (nan_any _).mono ?_
      rintro e2 w2 ⟨rfl, rfl⟩
      go_wp2_with fail
      go_ret3
      exact sp_some HS.out (.inr (.inr rfl)) rfl
    · have g3 : ((n : Int) == 3) = false := by simp; omega
      have HS := Lib.hid (HSP.out.trans (by rw [← HN.out, if_neg h3] : _ = none))
      go_enter Tryz.func111, Tryz.ntmps111
      go_wp2_with fail
      refine (HC.out _).mono ?_
      rintro e1 w1 ⟨rfl, rfl⟩
      go_wp2_with fail
      go_ret3
      exact sp_none HS.out rfl
  have t110 : ((c : Int) == 110) = false := by simp; omega
  by_cases h78 : c = 78
  · subst h78
    have HSP := Lib.hid (show spN (ns s) = if cpl (78 :: r) [110, 97, 110] = 3 then some 3 else none by rw [HCO.out]; rfl)
    obtain ⟨n, hn⟩ : ∃ n, n = cpl (78 :: r) [110, 97, 110] := ⟨_, rfl⟩
    have HN := Lib.hid hn
    have hcall := fun w => cpl_any s ⟨#[110, 97, 110]⟩ w (by omega) (by decide)
    rw [HCO.out, show ns ⟨#[110, 97, 110]⟩ = [110, 97, 110] from rfl, ← hn] at hcall
    have HC := Lib.hid hcall
    clear hcall hn
    by_cases h3 : n = 3
    · subst h3
      have HS := Lib.hid (HSP.out.trans (by rw [← HN.out]; rfl : _ = some 3))
      go_enter Tryz.func111, Tryz.ntmps111
      go_wp2_with fail
      refine (HC.out _).mono ?_
      rintro e1 w1 ⟨rfl, rfl⟩
      go_wp2_with fail
      refine (nan_any _).mono ?_
      rintro e2 w2 ⟨rfl, rfl⟩
      go_wp2_with fail
      go_ret3
      exact sp_some HS.out (.inr (.inr rfl)) rfl
    · have g3 : ((n : Int) == 3) = false := by simp; omega
      have HS := Lib.hid (HSP.out.trans (by rw [← HN.out, if_neg h3] : _ = none))
      go_enter Tryz.func111, Tryz.ntmps111
      go_wp2_with fail
      refine (HC.out _).mono ?_
      rintro e1 w1 ⟨rfl, rfl⟩
      go_wp2_with fail
      go_ret3
      exact sp_none HS.out rfl
  have t78 : ((c : Int) == 78) = false := by simp; omega
  have HS := Lib.hid (show spN (ns s) = none by
    rw [HCO.out]
    show (if c = 43 ∨ c = 45 then (if inN r = 0 then none else some (1 + inN r)) else if c = 105 ∨ c = 73 then (if inN (c :: r) = 0 then none else some (inN (c :: r))) else if c = 110 ∨ c = 78 then (if cpl (c :: r) [110, 97, 110] = 3 then some 3 else none) else none) = none
    rw [if_neg (by omega), if_neg (by omega), if_neg (by omega)])
  go_enter Tryz.func111, Tryz.ntmps111
  go_wp2_with fail
  go_ret3
  exact sp_none HS.out rfl
end Go.Proofs.YtiebedcldbmlhaaGreatDoor.Fl
namespace Go.Proofs.YtiebedcldbmlhaaGreatDoor.Fl
open Go.RowKit
set_option linter.unusedVariables false

theorem arith_run (op : BinOp) (hop : op = .mul ∨ op = .quo) (t : TypeId) (k : FloatKind) (x y : Nat) (w : World) : ∃ r q, (binOp op t (.float k x) (.float k y)).run Tryz.prog w = .ok (.float k r) (w.drewN q) := by
  rcases hop with rfl | rfl
  · cases hm : k.format.mul x y with
    | some r => exact ⟨r, 0, by simp [binOp, Op.floatArith, hm]; rfl⟩
    | none =>
      by_cases hf : (Question.nanBits k x y).forced = true
      · exact ⟨0, 0, by simp [binOp, Op.floatArith, hm, hf]; rfl⟩
      · exact ⟨_, 1, by simp [binOp, Op.floatArith, hm, hf]; exact ⟨rfl, rfl⟩⟩
  · cases hm : k.format.div x y with
    | some r => exact ⟨r, 0, by simp [binOp, Op.floatArith, hm]; rfl⟩
    | none =>
      by_cases hf : (Question.nanBits k x y).forced = true
      · exact ⟨0, 0, by simp [binOp, Op.floatArith, hm, hf]; rfl⟩
      · exact ⟨_, 1, by simp [binOp, Op.floatArith, hm, hf]; exact ⟨rfl, rfl⟩⟩
/-- The table of small powers. -/
structure STab (w : World) (B : Nat) : Prop where
  t : ∃ b o cap, b < B ∧ w.cell? ⟨8, 0, none⟩ = some (.slice (some ⟨b, o, none⟩) 11 cap) ∧ ∀ i, i < 11 → ∃ v, w.cell? ⟨b, o + i, none⟩ = some (.float .f32 v)
  g : 8 < B
def ExPost (d : Nat) (p : Int) (w : World) (e : Ending) (w' : World) : Prop := ∃ (fb : Nat) (ok : Bool), e = .returned (.tuple #[.float .f32 fb, .bool ok]) ∧ (ok = true → d < 8388608 ∧ -10 ≤ p ∧ p ≤ 17) ∧ ∃ q, w' = w.drewN q
set_option maxHeartbeats 2000000 in
set_option maxRecDepth 100000 in
theorem exact_any (d : Nat) (p : Int) (neg : Bool) (B : Nat) (w : World) (hS : STab w B) (hd : d < 18446744073709551616) (hp1 : -1000 ≤ p) (hp2 : p ≤ 1000) :
    Calls Tryz.prog 116 #[.int .u64 d, .int .i64 p, .bool neg] w (ExPost d p w) := by
  obtain ⟨tb, tbo, tc, _, t0, ht⟩ := hS.t
  by_cases h23 : d < 8388608
  · have hsh : (d : Int) / 8388608 = 0 := by omega
    have HAR := Lib.hid (fun (op : BinOp) (hop : op = .mul ∨ op = .quo) (x y : Nat) (w : World) => arith_run op hop 150 .f32 x y w)
    have hneg : ∀ (b : Nat) (w : World), (Op.unary .neg (.float .f32 b)).run Tryz.prog w = .ok (.float .f32 (Op.negFloat .f32 b)) w := fun _ _ => rfl
    have HT := Lib.hid ht
    have H23 := Lib.hid h23
    clear ht hS
    by_cases hp0 : p = 0
    · subst hp0
      cases neg with
      | true =>
        go_enter Tryz.func116, Tryz.ntmps116
        go_wp2_with fail
        all_goals
          go_ret2
          first
            | exact ⟨_, _, rfl, fun _ => ⟨H23.out, by omega, by omega⟩, 0, rfl⟩
            | exact ⟨_, _, rfl, fun _ => ⟨H23.out, by omega, by omega⟩, _, rfl⟩
            | exact ⟨_, _, rfl, fun h => absurd h (by decide), 0, rfl⟩
            | exact ⟨_, _, rfl, fun h => absurd h (by decide), _, rfl⟩
      | false =>
        go_enter Tryz.func116, Tryz.ntmps116
        go_wp2_with fail
        all_goals
          go_ret2
          first
            | exact ⟨_, _, rfl, fun _ => ⟨H23.out, by omega, by omega⟩, 0, rfl⟩
            | exact ⟨_, _, rfl, fun _ => ⟨H23.out, by omega, by omega⟩, _, rfl⟩
            | exact ⟨_, _, rfl, fun h => absurd h (by decide), 0, rfl⟩
            | exact ⟨_, _, rfl, fun h => absurd h (by decide), _, rfl⟩
    have hp0d : (p == 0) = false := by simp; exact hp0
    by_cases hpos : 0 < p
    · have hposd : decide (0 < p) = true := decide_eq_true hpos
      by_cases h17 : p ≤ 17
      · have h17d : decide (p ≤ 17) = true := decide_eq_true h17
        by_cases h10 : 10 < p
        · have h10d : decide (10 < p) = true := decide_eq_true h10
          obtain ⟨j, hj⟩ : ∃ j : Nat, p - 10 = (j : Int) := ⟨(p - 10).toNat, by omega⟩
          obtain ⟨v, hv⟩ := HT.out j (by omega)
          obtain ⟨v10, hv10⟩ := HT.out 10 (by omega)
          have hj11 : (j : Int) < 11 := by omega
          cases neg with
          | true =>
            obtain ⟨r, q, hr⟩ := HAR.out .mul (.inl rfl) (Op.negFloat .f32 (floatOfInt .f32 d)) v w
            obtain ⟨r2, q2, hr2⟩ := HAR.out .mul (.inl rfl) r v10 (w.drewN q)
            go_enter Tryz.func116, Tryz.ntmps116
            go_wp2_with fail
            all_goals
              go_ret2
              first
                | exact ⟨_, _, rfl, fun _ => ⟨H23.out, by omega, by omega⟩, 0, rfl⟩
                | exact ⟨_, _, rfl, fun _ => ⟨H23.out, by omega, by omega⟩, _, rfl⟩
                | exact ⟨_, _, rfl, fun h => absurd h (by decide), 0, rfl⟩
                | exact ⟨_, _, rfl, fun h => absurd h (by decide), _, rfl⟩
          | false =>
            obtain ⟨r, q, hr⟩ := HAR.out .mul (.inl rfl) (floatOfInt .f32 d) v w
            obtain ⟨r2, q2, hr2⟩ := HAR.out .mul (.inl rfl) r v10 (w.drewN q)
            go_enter Tryz.func116, Tryz.ntmps116
            go_wp2_with fail
            all_goals
              go_ret2
              first
                | exact ⟨_, _, rfl, fun _ => ⟨H23.out, by omega, by omega⟩, 0, rfl⟩
                | exact ⟨_, _, rfl, fun _ => ⟨H23.out, by omega, by omega⟩, _, rfl⟩
                | exact ⟨_, _, rfl, fun h => absurd h (by decide), 0, rfl⟩
                | exact ⟨_, _, rfl, fun h => absurd h (by decide), _, rfl⟩
        · have h10d : decide (10 < p) = false := decide_eq_false h10
          obtain ⟨j, rfl⟩ := Int.eq_ofNat_of_zero_le (show 0 ≤ p by omega)
          obtain ⟨v, hv⟩ := HT.out j (by omega)
          have hj11 : (j : Int) < 11 := by omega
          cases neg with
          | true =>
            obtain ⟨r, q, hr⟩ := HAR.out .mul (.inl rfl) (Op.negFloat .f32 (floatOfInt .f32 d)) v w
            go_enter Tryz.func116, Tryz.ntmps116
            go_wp2_with fail
            all_goals
              go_ret2
              first
                | exact ⟨_, _, rfl, fun _ => ⟨H23.out, by omega, by omega⟩, 0, rfl⟩
                | exact ⟨_, _, rfl, fun _ => ⟨H23.out, by omega, by omega⟩, _, rfl⟩
                | exact ⟨_, _, rfl, fun h => absurd h (by decide), 0, rfl⟩
                | exact ⟨_, _, rfl, fun h => absurd h (by decide), _, rfl⟩
          | false =>
            obtain ⟨r, q, hr⟩ := HAR.out .mul (.inl rfl) (floatOfInt .f32 d) v w
            go_enter Tryz.func116, Tryz.ntmps116
            go_wp2_with fail
            all_goals
              go_ret2
              first
                | exact ⟨_, _, rfl, fun _ => ⟨H23.out, by omega, by omega⟩, 0, rfl⟩
                | exact ⟨_, _, rfl, fun _ => ⟨H23.out, by omega, by omega⟩, _, rfl⟩
                | exact ⟨_, _, rfl, fun h => absurd h (by decide), 0, rfl⟩
                | exact ⟨_, _, rfl, fun h => absurd h (by decide), _, rfl⟩
      · have h17d : decide (p ≤ 17) = false := decide_eq_false h17
        have hn : decide (p < 0) = false := decide_eq_false (by omega)
        cases neg with
        | true =>
          go_enter Tryz.func116, Tryz.ntmps116
          go_wp2_with fail
          all_goals
            go_ret2
            first
              | exact ⟨_, _, rfl, fun _ => ⟨H23.out, by omega, by omega⟩, 0, rfl⟩
              | exact ⟨_, _, rfl, fun _ => ⟨H23.out, by omega, by omega⟩, _, rfl⟩
              | exact ⟨_, _, rfl, fun h => absurd h (by decide), 0, rfl⟩
              | exact ⟨_, _, rfl, fun h => absurd h (by decide), _, rfl⟩
        | false =>
          go_enter Tryz.func116, Tryz.ntmps116
          go_wp2_with fail
          all_goals
            go_ret2
            first
              | exact ⟨_, _, rfl, fun _ => ⟨H23.out, by omega, by omega⟩, 0, rfl⟩
              | exact ⟨_, _, rfl, fun _ => ⟨H23.out, by omega, by omega⟩, _, rfl⟩
              | exact ⟨_, _, rfl, fun h => absurd h (by decide), 0, rfl⟩
              | exact ⟨_, _, rfl, fun h => absurd h (by decide), _, rfl⟩
    · have hposd : decide (0 < p) = false := decide_eq_false hpos
      have hn : decide (p < 0) = true := decide_eq_true (by omega)
      by_cases h10 : -10 ≤ p
      · have h10d : decide (-10 ≤ p) = true := decide_eq_true h10
        obtain ⟨j, hj⟩ : ∃ j : Nat, p = -(j : Int) := ⟨(-p).toNat, by omega⟩
        subst hj
        obtain ⟨v, hv⟩ := HT.out j (by omega)
        have hj11 : (j : Int) < 11 := by omega
        cases neg with
        | true =>
          obtain ⟨r, q, hr⟩ := HAR.out .quo (.inr rfl) (Op.negFloat .f32 (floatOfInt .f32 d)) v w
          go_enter Tryz.func116, Tryz.ntmps116
          go_wp2_with fail
          all_goals
            go_ret2
            first
              | exact ⟨_, _, rfl, fun _ => ⟨H23.out, by omega, by omega⟩, 0, rfl⟩
              | exact ⟨_, _, rfl, fun _ => ⟨H23.out, by omega, by omega⟩, _, rfl⟩
              | exact ⟨_, _, rfl, fun h => absurd h (by decide), 0, rfl⟩
              | exact ⟨_, _, rfl, fun h => absurd h (by decide), _, rfl⟩
        | false =>
          obtain ⟨r, q, hr⟩ := HAR.out .quo (.inr rfl) (floatOfInt .f32 d) v w
          go_enter Tryz.func116, Tryz.ntmps116
          go_wp2_with fail
          all_goals
            go_ret2
            first
              | exact ⟨_, _, rfl, fun _ => ⟨H23.out, by omega, by omega⟩, 0, rfl⟩
              | exact ⟨_, _, rfl, fun _ => ⟨H23.out, by omega, by omega⟩, _, rfl⟩
              | exact ⟨_, _, rfl, fun h => absurd h (by decide), 0, rfl⟩
              | exact ⟨_, _, rfl, fun h => absurd h (by decide), _, rfl⟩
      · have h10d : decide (-10 ≤ p) = false := decide_eq_false h10
        cases neg with
        | true =>
          go_enter Tryz.func116, Tryz.ntmps116
          go_wp2_with fail
          all_goals
            go_ret2
            first
              | exact ⟨_, _, rfl, fun _ => ⟨H23.out, by omega, by omega⟩, 0, rfl⟩
              | exact ⟨_, _, rfl, fun _ => ⟨H23.out, by omega, by omega⟩, _, rfl⟩
              | exact ⟨_, _, rfl, fun h => absurd h (by decide), 0, rfl⟩
              | exact ⟨_, _, rfl, fun h => absurd h (by decide), _, rfl⟩
        | false =>
          go_enter Tryz.func116, Tryz.ntmps116
          go_wp2_with fail
          all_goals
            go_ret2
            first
              | exact ⟨_, _, rfl, fun _ => ⟨H23.out, by omega, by omega⟩, 0, rfl⟩
              | exact ⟨_, _, rfl, fun _ => ⟨H23.out, by omega, by omega⟩, _, rfl⟩
              | exact ⟨_, _, rfl, fun h => absurd h (by decide), 0, rfl⟩
              | exact ⟨_, _, rfl, fun h => absurd h (by decide), _, rfl⟩
  · obtain ⟨g, hg⟩ : ∃ g : Nat, (d : Int) / 8388608 = (g : Int) := ⟨d / 8388608, by omega⟩
    have hg1 : ((g : Int) != 0) = true := by simp; omega
    have hg2 : g < 18446744073709551616 := by omega
    go_enter Tryz.func116, Tryz.ntmps116
    go_wp2_with fail
    go_ret2
    exact ⟨_, _, rfl, fun h => absurd h (by decide), 0, rfl⟩
end Go.Proofs.YtiebedcldbmlhaaGreatDoor.Fl
namespace Go.Proofs.YtiebedcldbmlhaaGreatDoor.Fl
open Go.RowKit
set_option linter.unusedVariables false

noncomputable def zdec : Value := ((Tryz.prog.info? 178).bind (·.zero)).getD undef
noncomputable def zcs : Array Value := match zdec with
  | .agg cs => cs
  | _ => #[]
theorem zero_run (w : World) : (zeroValue 178).run Tryz.prog w = .ok (.agg zcs) w := by kernel_rfl
theorem zdec_list : zcs.toList = List.replicate 800 (.int .u8 0) ++ [.int .i64 0, .int .i64 0, .bool false, .bool false] := by kernel_rfl
theorem zdec_at (i : Nat) : zcs[i]? = (List.replicate 800 (Value.int .u8 0) ++ [.int .i64 0, .int .i64 0, .bool false, .bool false])[i]? := by
  rw [← zdec_list, Array.getElem?_toList]
theorem rep_lt {α : Type} (n : Nat) (a : α) (l : List α) (i : Nat) (h : i < n) : (List.replicate n a ++ l)[i]? = some a := by
  rw [List.getElem?_append_left (by rw [List.length_replicate]; exact h), List.getElem?_replicate, if_pos h]
theorem rep_ge {α : Type} (n : Nat) (a : α) (l : List α) (j : Nat) : (List.replicate n a ++ l)[n + j]? = l[j]? := by
  rw [List.getElem?_append_right (by rw [List.length_replicate]; omega), List.length_replicate, Nat.add_sub_cancel_left]
theorem rep_len {α : Type} (n : Nat) (a : α) (l : List α) : (List.replicate n a ++ l).length = n + l.length := by
  rw [List.length_append, List.length_replicate]
theorem zdec_size : zcs.size = 804 := by
  have h := congrArg List.length zdec_list
  rw [rep_len, Array.length_toList] at h
  exact h
theorem zdec_raw : Raw zcs :=
  ⟨zdec_size, fun i hi => ⟨0, by decide, (zdec_at i).trans (rep_lt 800 _ _ i hi)⟩, ⟨false, (zdec_at 802).trans (rep_ge 800 _ _ 2)⟩, ⟨false, (zdec_at 803).trans (rep_ge 800 _ _ 3)⟩⟩
theorem zdec_nd : zcs[800]? = some (.int .i64 0) := (zdec_at 800).trans (rep_ge 800 _ _ 0)
theorem zdec_dp : zcs[801]? = some (.int .i64 0) := (zdec_at 801).trans (rep_ge 800 _ _ 1)

theorem fconv_run (src dst : TypeId) (s k : FloatKind) (b : Nat) (u : TypeDesc) (hs : Tryz.prog.underlying src = some u) (hd : Tryz.prog.underlying dst = some (.float k)) (w : World) :
    ∃ r q, (convert src dst (.float s b)).run Tryz.prog w = .ok (.float k r) (w.drewN q) := by
  have hc : (convert src dst (.float s b)).run Tryz.prog w = (Conv.floatToFloat s b k).run Tryz.prog w := by
    cases u <;> simp [convert, run_underlying hs, run_underlying hd]
  rw [hc]
  unfold Conv.floatToFloat
  split
  · exact ⟨b, 0, rfl⟩
  · split
    · by_cases hf : (Question.nanConv k b).forced = true
      · exact ⟨0, 0, by simp [hf]; rfl⟩
      · exact ⟨_, 1, by simp [hf]; exact ⟨rfl, rfl⟩⟩
    · exact ⟨_, 0, rfl⟩
    · rename_i sg m e he
      by_cases hI : (k.decode (k.encode (.number sg m e))).isInfinity = true
      · by_cases hf : (Question.floatToFloat b).forced = true
        · exact ⟨0, 0, by simp [hI, hf]; rfl⟩
        · exact ⟨_, 1, by simp [hI, hf]; exact ⟨rfl, rfl⟩⟩
      · exact ⟨_, 0, by simp [hI]; exact ⟨rfl, rfl⟩⟩
end Go.Proofs.YtiebedcldbmlhaaGreatDoor.Fl
