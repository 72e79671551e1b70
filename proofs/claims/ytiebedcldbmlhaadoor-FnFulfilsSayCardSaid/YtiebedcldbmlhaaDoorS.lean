/-
  The small functions of the measure: whole, truth, ascii, fold. Conditions: of a size that addresses allow.
-/
import Derived.Test.YtiebedcldbmlhaaDoorR
namespace Go.Proofs.YtiebedcldbmlhaaDoor
open Go.RowKit
open Fl (ns signOf isD ns_drop ns_len ns_end ns_lt ns_tail)
set_option linter.unusedVariables false

/-- The number of some digits, behind a number. -/
def dv (a : Nat) (l : List Nat) : Nat := l.foldl (fun a c => 10 * a + (c - 48)) a
theorem dv_nil (a : Nat) : dv a [] = a := rfl
theorem dv_cons (a c : Nat) (l : List Nat) : dv a (c :: l) = dv (10 * a + (c - 48)) l := by unfold dv; rw [List.foldl_cons]
theorem dv_snoc (l : List Nat) (a c : Nat) : dv a (l ++ [c]) = 10 * dv a l + (c - 48) := by
  unfold dv
  rw [List.foldl_append]
  rfl
theorem dv_bound : ∀ (l : List Nat) (a : Nat), (∀ c ∈ l, 48 ≤ c ∧ c ≤ 57) → dv a l < (a + 1) * 10 ^ l.length
  | [], a, _ => by rw [dv_nil]; simp
  | c :: l, a, h => by
    have h1 := dv_bound l (10 * a + (c - 48)) (fun d hd => h d (List.mem_cons_of_mem _ hd))
    have h2 := h c (List.mem_cons_self ..)
    rw [dv_cons, List.length_cons, Nat.pow_succ, Nat.mul_comm (10 ^ l.length), ← Nat.mul_assoc]
    exact Nat.lt_of_lt_of_le h1 (Nat.mul_le_mul_right _ (by omega))
/-- What whole tells: the number, and 0 none, 1 one, 2 open. -/
def wholeN (l : List Nat) : Int × Int :=
  if (signOf l).2 = [] then (0, 0) else if (signOf l).2.all isD = false then (0, 0) else if 18 < (signOf l).2.length then (0, 2)
  else (if (signOf l).1 then -(dv 0 (signOf l).2 : Int) else (dv 0 (signOf l).2 : Int), 1)
def wNum (m : Bool) (t : List Nat) : Int := if m then -(dv 0 t : Int) else (dv 0 t : Int)
def wTail (m : Bool) (t : List Nat) : Int × Int :=
  if t = [] then (0, 0) else if t.all isD = false then (0, 0) else if 18 < t.length then (0, 2) else (wNum m t, 1)
theorem isD_iff {c : Nat} : isD c = true ↔ 48 ≤ c ∧ c ≤ 57 := by unfold isD; simp
theorem isD_no {c : Nat} (h : c < 48 ∨ 57 < c) : isD c = false := by
  cases hc : isD c with
  | false => rfl
  | true => have := isD_iff.1 hc; omega
theorem isD_yes {c : Nat} (h : 48 ≤ c ∧ c ≤ 57) : isD c = true := isD_iff.2 h
theorem all_isD {l : List Nat} (h : l.all isD = true) : ∀ c ∈ l, 48 ≤ c ∧ c ≤ 57 := fun c hc => isD_iff.1 (List.all_eq_true.1 h c hc)
theorem take_step {l : List Nat} {k c : Nat} {r : List Nat} (h : l.drop k = c :: r) : l.take (k + 1) = l.take k ++ [c] := by
  have hk : k < l.length := by
    rcases Nat.lt_or_ge k l.length with h' | h'
    · exact h'
    · rw [List.drop_eq_nil_of_le h'] at h; cases h
  rw [List.take_add_one, List.getElem?_eq_getElem hk]
  rw [List.drop_eq_getElem_cons hk] at h
  injection h with h1 h2
  rw [h1]; rfl
theorem isEmpty_size (s : ByteArray) : s.toList.isEmpty = decide (s.size = 0) := by
  rw [Lib.toList_data]
  have : s.size = s.data.toList.length := rfl
  rw [this]
  cases s.data.toList <;> simp
theorem pair_ret {R : Int × Int} {a b : Int} (h : R = (a, b)) : Ending.returned (.tuple #[.int .i64 a, .int .i64 b]) = Ending.returned (.tuple #[.int .i64 R.1, .int .i64 R.2]) := by rw [h]
theorem ret_pair {a b a' b' : Value} (h1 : a = a') (h2 : b = b') : Ending.returned (.tuple #[a, b]) = Ending.returned (.tuple #[a', b']) := by rw [h1, h2]

set_option maxHeartbeats 2000000 in
set_option maxRecDepth 100000 in
theorem whole_any (s : ByteArray) (w : World) (hs : s.size ≤ 1000000000) :
    Calls Tryd.prog 13 #[.string s] w fun e w' => e = .returned (.tuple #[.int .i64 (wholeN (ns s)).1, .int .i64 (wholeN (ns s)).2]) ∧ w = w' := by
  obtain ⟨R, hR⟩ : ∃ R, R = wholeN (ns s) := ⟨_, rfl⟩
  obtain ⟨m, hm⟩ : ∃ m, m = (signOf (ns s)).1 := ⟨_, rfl⟩
  have hR2 : R = wTail m (signOf (ns s)).2 := by rw [hR, hm]; rfl
  rw [← hR]
  have HR := Lib.hid hR2
  clear hR hR2
  have HM := Lib.hid hm
  clear hm
  go_enter Tryd.func13, Tryd.ntmps13
  go_upto_region 2 with fail
  go_cut [19] from 8 to 19 (fun v wx => ∃ b : Bool, v = .bool b ∧ (b = true → ∃ h : 0 < s.size, ((s[0]'h).toNat = 45 ∧ m = true ∨ (s[0]'h).toNat = 43 ∧ m = false) ∧ (signOf (ns s)).2 = (ns s).drop 1) ∧ (b = false → m = false ∧ (signOf (ns s)).2 = ns s ∧ ∀ h : 0 < s.size, (s[0]'h).toNat ≠ 45) ∧ wx = w)
  case first =>
    by_cases h0 : 0 < s.size
    · have hne : s.toList.isEmpty = false := (isEmpty_size s).trans (decide_eq_false (by omega))
      have e0 := ns_drop s 0 h0
      rw [List.drop_zero, Nat.zero_add] at e0
      obtain ⟨x, hx⟩ : ∃ x : Nat, (s[0]'h0).toNat = x := ⟨_, rfl⟩
      have HX := Lib.hid hx
      rw [hx] at e0
      have E0 := Lib.hid e0
      clear e0
      rcases (show x = 45 ∨ x = 43 ∨ (x ≠ 45 ∧ x ≠ 43) by omega) with h1 | h1 | ⟨h1, h2⟩
      · have b1 : ((x : Int) == 45) = true := by rw [h1]; rfl
        have HH := Lib.hid h1
        clear h1
        go_wp2_with fail
        go_meet
        refine ⟨true, rfl, fun _ => ⟨h0, .inl ⟨HX.out.trans HH.out, ?_⟩, ?_⟩, (fun h => by cases h), rfl⟩
        · rw [HM.out, E0.out, HH.out]; rfl
        · rw [E0.out, HH.out]; rfl
      · have b1 : ((x : Int) == 45) = false := by rw [h1]; rfl
        have b2 : ((x : Int) == 43) = true := by rw [h1]; rfl
        have HH := Lib.hid h1
        clear h1
        go_wp2_with fail
        go_meet
        refine ⟨true, rfl, fun _ => ⟨h0, .inr ⟨HX.out.trans HH.out, ?_⟩, ?_⟩, (fun h => by cases h), rfl⟩
        · rw [HM.out, E0.out, HH.out]; rfl
        · rw [E0.out, HH.out]; rfl
      · have b1 : ((x : Int) == 45) = false := beq_eq_false_iff_ne.2 (by omega)
        have b2 : ((x : Int) == 43) = false := beq_eq_false_iff_ne.2 (by omega)
        have HH := Lib.hid (And.intro h1 h2)
        clear h1 h2
        have hso : signOf (ns s) = (false, ns s) := by
          rw [E0.out]
          simp only [signOf]
          rw [if_neg HH.out.2, if_neg HH.out.1]
        have HSO := Lib.hid hso
        clear hso
        go_wp2_with fail
        go_meet
        exact ⟨false, rfl, (fun h => by cases h), (fun _ => ⟨by rw [HM.out, HSO.out], by rw [HSO.out], fun h => by rw [HX.out]; exact HH.out.1⟩), rfl⟩
    · have hse : s = ByteArray.empty := by
        have : s.data = #[] := Array.eq_empty_of_size_eq_zero (by have : s.data.size = s.size := rfl; omega)
        cases s; simp_all
      have hne : s.toList.isEmpty = true := (isEmpty_size s).trans (decide_eq_true (by omega))
      have hso : signOf (ns s) = (false, ns s) := by rw [hse]; rfl
      have HSO := Lib.hid hso
      clear hso hse
      go_wp2_with fail
      go_meet
      exact ⟨false, rfl, (fun h => by cases h), (fun _ => ⟨by rw [HM.out, HSO.out], by rw [HSO.out], fun h => absurd h h0⟩), rfl⟩
  case rest =>
  obtain ⟨b, rfl, hb1, hb2, rfl⟩ := hcut
  have HB1 := Lib.hid hb1
  have HB2 := Lib.hid hb2
  clear hb1 hb2
  go_upto_if 19 with fail
  go_cut [4] from 20 to 21 (fun v wx => ∃ t : ByteArray, v = .string t ∧ t.size ≤ s.size ∧ ns t = (signOf (ns s)).2 ∧ (∀ h : 0 < s.size, decide ((s[0]'h).toNat = 45) = m) ∧ (t.size = 0 ∨ 0 < s.size) ∧ wx = wc)
  case first =>
    cases b with
    | true =>
      obtain ⟨h0, hc, h2⟩ := HB1.out rfl
      have h1i : (1 : Int) ≤ (s.size : Int) := by omega
      have H2 := Lib.hid h2
      have HC := Lib.hid hc
      clear h2 hc
      go_wp2_with fail
      go_meet
      refine ⟨s.extract 1 s.size, rfl, by rw [ByteArray.size_extract]; omega, by rw [ns_tail, H2.out], fun h => ?_, .inr h0, rfl⟩
      rcases HC.out with ⟨h3, h4⟩ | ⟨h3, h4⟩ <;> rw [h3, h4] <;> rfl
    | false =>
      obtain ⟨h1, h2, h3⟩ := HB2.out rfl
      have H2 := Lib.hid h2
      have H1 := Lib.hid h1
      have H3 := Lib.hid h3
      clear h1 h2 h3
      go_wp2_with fail
      go_meet
      exact ⟨s, rfl, Nat.le_refl _, H2.out.symm, fun h => by rw [H1.out]; exact decide_eq_false (H3.out h), by omega, rfl⟩
  case rest =>
  obtain ⟨t, rfl, hts, htn, hmm, ht0, rfl⟩ := hcut
  have HRT := Lib.hid (show R = wTail m (ns t) by rw [HR.out, htn])
  have HMM := Lib.hid hmm
  clear HR htn hmm HB1 HB2
  by_cases hte : 0 < t.size
  case neg =>
    have hse : t = ByteArray.empty := by
      have : t.data = #[] := Array.eq_empty_of_size_eq_zero (by have : t.data.size = t.size := rfl; omega)
      cases t; simp_all
    have hne : t.toList.isEmpty = true := (isEmpty_size t).trans (decide_eq_true (by omega))
    have hne2 : decide (t = ByteArray.empty) = true := decide_eq_true hse
    have HSE := Lib.hid hse
    clear hse
    go_wp2_with fail
    go_ret2
    have : R = (0, 0) := by rw [HRT.out, HSE.out]; rfl
    exact ⟨pair_ret this, rfl⟩
  have hne : t.toList.isEmpty = false := (isEmpty_size t).trans (decide_eq_false (by omega))
  have hne2 : decide (t = ByteArray.empty) = false := decide_eq_false (fun h => by rw [h] at hte; exact absurd hte (by decide))
  have hs0 : 0 < s.size := by omega
  have hnil : ns t ≠ [] := fun h => by have := ns_len t; rw [h] at this; simp at this; omega
  have HNIL := Lib.hid hnil
  clear hnil
  go_wp2_with fail
  go_loop [5, 26] (fun n i => ∃ k N : Nat, k ≤ t.size ∧ i = .int .i64 k ∧ n = .int .i64 N ∧ N = dv 0 ((ns t).take (min k 18)) ∧ N < 1000000000000000000 ∧ ((ns t).take (min k 18)).all isD = true ∧ (ns t).all isD = ((ns t).drop k).all isD) (fun n i => t.size - (intOf i).toNat)
  case atStart => exact ⟨0, 0, Nat.zero_le _, rfl, rfl, by rw [Nat.zero_min]; rfl, by decide, by rw [Nat.zero_min]; rfl, rfl⟩
  case round =>
    obtain ⟨k, N, hk, rfl, rfl, hN, hNb, hal, hall⟩ := hrel
    have HN := Lib.hid hN
    have HAL := Lib.hid hal
    have HA := Lib.hid hall
    clear hN hal hall
    by_cases hlt : k < t.size
    · have e0 := ns_drop t k hlt
      obtain ⟨x, hx⟩ : ∃ x : Nat, (t[k]'hlt).toNat = x := ⟨_, rfl⟩
      have hx256 : x < 256 := by rw [← hx]; exact ns_lt t k hlt
      rw [hx] at e0
      have E0 := Lib.hid e0
      clear e0
      by_cases hd : 48 ≤ x ∧ x ≤ 57
      · have b1 : decide ((x : Int) < 48) = false := decide_eq_false (by omega)
        have b2 : decide ((57 : Int) < (x : Int)) = false := decide_eq_false (by omega)
        have HD := Lib.hid hd
        have hx48 : 48 ≤ x := hd.1
        have hx57 : x ≤ 57 := hd.2
        clear hd
        by_cases h18 : k < 18
        · have hmin : min k 18 = k := by omega
          have hmin1 : min (k + 1) 18 = k + 1 := by omega
          have htk := take_step E0.out
          have hN' : 10 * N + (x - 48) = dv 0 ((ns t).take (min (k + 1) 18)) := by
            have := HN.out
            rw [hmin] at this
            rw [hmin1, htk, dv_snoc, this]
          have hal' : ((ns t).take (min (k + 1) 18)).all isD = true := by
            have := HAL.out
            rw [hmin] at this
            rw [hmin1, htk, List.all_append, this]
            simp [isD_yes HD.out]
          have hbd : 10 * N + (x - 48) < 1000000000000000000 := by
            have := dv_bound _ 0 (all_isD hal')
            rw [← hN'] at this
            have h2 : (0 + 1) * 10 ^ ((ns t).take (min (k + 1) 18)).length ≤ (0 + 1) * 10 ^ 18 := Nat.mul_le_mul_left _ (Nat.pow_le_pow_right (by decide) (by rw [List.length_take]; omega))
            have h3 : (0 + 1) * 10 ^ 18 = 1000000000000000000 := by decide
            omega
          have HN2 := Lib.hid hN'
          have HAL2 := Lib.hid hal'
          have hc18 : decide ((k : Int) < 18) = true := decide_eq_true (by omega)
          clear hmin hmin1 htk hN' hal'
          go_wp2_with fail
          go_round
          case rel => exact ⟨k + 1, 10 * N + (x - 48), by omega, by go_num, by go_num, HN2.out, hbd, HAL2.out, by rw [HA.out, E0.out, List.all_cons, isD_yes HD.out]; rfl⟩
          case measure => simp [intOf]; omega
        · have hc18 : decide ((k : Int) < 18) = false := decide_eq_false (by omega)
          have hmin : min k 18 = min (k + 1) 18 := by omega
          have HMI := Lib.hid hmin
          clear hmin
          go_wp2_with fail
          go_round
          case rel => exact ⟨k + 1, N, by omega, by go_num, rfl, by rw [← HMI.out]; exact HN.out, hNb, by rw [← HMI.out]; exact HAL.out, by rw [HA.out, E0.out, List.all_cons, isD_yes HD.out]; rfl⟩
          case measure => simp [intOf]; omega
      · have hno : (ns t).all isD = false := by rw [HA.out, E0.out, List.all_cons, isD_no (by omega)]; rfl
        have hRR : R = (0, 0) := by
          rw [HRT.out]; unfold wTail
          rw [if_neg HNIL.out, if_pos hno]
        have HRR := Lib.hid hRR
        clear hRR hno
        rcases (show x < 48 ∨ (48 ≤ x ∧ 57 < x) by omega) with h | ⟨h, h'⟩
        · have b1 : decide ((x : Int) < 48) = true := decide_eq_true (by omega)
          clear hd
          go_wp2_with fail
          go_ret2
          exact ⟨pair_ret HRR.out, rfl⟩
        · have b1 : decide ((x : Int) < 48) = false := decide_eq_false (by omega)
          have b2 : decide ((57 : Int) < (x : Int)) = true := decide_eq_true (by omega)
          clear hd
          go_wp2_with fail
          go_ret2
          exact ⟨pair_ret HRR.out, rfl⟩
    · obtain rfl : k = t.size := by omega
      have hyes : (ns t).all isD = true := by rw [HA.out, ns_end t _ (Nat.le_refl _)]; rfl
      by_cases h18 : 18 < t.size
      · have hRR : R = (0, 2) := by
          rw [HRT.out]; unfold wTail
          rw [if_neg HNIL.out, if_neg (by rw [hyes]; decide), if_pos (by rw [ns_len]; exact h18)]
        have HRR := Lib.hid hRR
        clear hRR hyes
        have hc18 : decide ((18 : Int) < (t.size : Int)) = true := decide_eq_true (by omega)
        go_wp2_with fail
        go_ret2
        exact ⟨pair_ret HRR.out, rfl⟩
      · have hRR : R = (wNum m (ns t), 1) := by
          rw [HRT.out]; unfold wTail
          rw [if_neg HNIL.out, if_neg (by rw [hyes]; decide), if_neg (by rw [ns_len]; exact h18)]
        have hNN : N = dv 0 (ns t) := by rw [HN.out, List.take_of_length_le (by rw [ns_len]; omega)]
        have HRR := Lib.hid hRR
        have HNN := Lib.hid hNN
        clear hRR hyes hNN
        have hc18 : decide ((18 : Int) < (t.size : Int)) = false := decide_eq_false (by omega)
        have hmt := HMM.out hs0
        obtain ⟨y, hy⟩ : ∃ y : Nat, (s[0]'hs0).toNat = y := ⟨_, rfl⟩
        rw [hy] at hmt
        cases m with
        | true =>
          have b1 : ((y : Int) == 45) = true := by have := of_decide_eq_true hmt; rw [this]; rfl
          clear hmt
          go_wp2_with fail
          go_ret2
          exact ⟨pair_ret (HRR.out.trans (by unfold wNum; rw [if_pos rfl, ← HNN.out])), rfl⟩
        | false =>
          have b1 : ((y : Int) == 45) = false := beq_eq_false_iff_ne.2 (by have := of_decide_eq_false hmt; omega)
          clear hmt
          go_wp2_with fail
          go_ret2
          exact ⟨pair_ret (HRR.out.trans (by unfold wNum; rw [if_neg (by decide), ← HNN.out])), rfl⟩
end Go.Proofs.YtiebedcldbmlhaaDoor
