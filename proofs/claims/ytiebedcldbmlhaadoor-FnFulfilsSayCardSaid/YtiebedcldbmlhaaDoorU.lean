/-
  The measure's functions letters and plainFloat. Conditions: the tables of letters are laid.
-/
import Derived.Test.YtiebedcldbmlhaaDoorT
namespace Go.Proofs.YtiebedcldbmlhaaDoor
open Go.RowKit
open Go.Lib (RVar letterT RgTab RTab)
open Fl (ns signOf isD ns_drop ns_len ns_end ns_lt ns_tail up)
set_option linter.unusedVariables false

def lettersN (s : ByteArray) : Bool × Int := if s.size = 0 then (false, 2) else (lettersGo s s.size 0, 1)
theorem lettersN_no {s : ByteArray} (h : s.size = 0) : lettersN s = (false, 2) := if_pos h
theorem lettersN_yes {s : ByteArray} {b : Bool} (h : ¬ s.size = 0) (hb : lettersGo s s.size 0 = b) : lettersN s = (b, 1) := by rw [← hb]; exact if_neg h
theorem pairb_ret {R : Bool × Int} {a : Bool} {b : Int} (h : R = (a, b)) : Ending.returned (.tuple #[.bool a, .int .i64 b]) = Ending.returned (.tuple #[.bool R.1, .int .i64 R.2]) := by rw [h]

set_option maxHeartbeats 2000000 in
set_option maxRecDepth 100000 in
theorem letters_any (T : Nat → Nat × Nat) (B : Nat) (s : ByteArray) (w : World) (hE : EnvF T B w) (hs : s.size ≤ 140737488351232) :
    Calls Tryd.prog 16 #[.string s] w fun e w' => e = .returned (.tuple #[.bool (lettersN s).1, .int .i64 (lettersN s).2]) ∧ Below w.heap.size w w' := by
  have HE := Lib.hid hE
  clear hE
  go_enter Tryd.func16, Tryd.ntmps16
  by_cases h0 : s.size = 0
  · have hse : s = ByteArray.empty := by
      have : s.data = #[] := Array.eq_empty_of_size_eq_zero h0
      cases s; simp_all
    have hne : s.toList.isEmpty = true := (isEmpty_size s).trans (decide_eq_true h0)
    have hne2 : decide (s = ByteArray.empty) = true := decide_eq_true hse
    have H0 := Lib.hid h0
    clear h0 hse
    go_wp2_with fail
    go_ret2
    exact ⟨pairb_ret (lettersN_no H0.out), Below.refl _ _⟩
  have hne : s.toList.isEmpty = false := (isEmpty_size s).trans (decide_eq_false h0)
  have hne2 : decide (s = ByteArray.empty) = false := decide_eq_false (fun h => h0 (by rw [h]; rfl))
  have H0 := Lib.hid h0
  clear h0
  go_wp2_with fail
  have hbi : Below w.heap.size w (w.iter s 0) := iter_below w s 0
  have hki : (w.iter s 0).heap[w.heap.size]? = some (.stringIter s 0) := by
    show (w.heap.push _)[w.heap.size]? = _
    simp
  have HBI := Lib.hid hbi
  have HKI := Lib.hid hki
  clear hbi hki
  go_loopw [5] (fun _ wr => ∃ pos fuel : Nat, wr.heap[w.heap.size]? = some (.stringIter s pos) ∧ pos ≤ s.size ∧ s.size - pos ≤ fuel ∧ lettersGo s fuel pos = lettersGo s s.size 0 ∧ Below w.heap.size w wr) (fun _ wr => s.size - itPos wr (w.heap.size))
  case atStart => exact ⟨0, s.size, HKI.out, Nat.zero_le _, by omega, rfl, HBI.out⟩
  case round =>
    obtain ⟨pos, fuel, hki, hps, hfu, hlg, hb⟩ := hrel
    have HLG := Lib.hid hlg
    have HB := Lib.hid hb
    have HKI2 := Lib.hid hki
    clear hlg hb
    by_cases hp : pos < s.size
    · obtain ⟨f, rfl⟩ : ∃ f, fuel = f + 1 := ⟨fuel - 1, by omega⟩
      have hnx : ∀ ty, (Instr.next (.pointer (some ⟨w.heap.size, 0, none⟩)) true ty).run Tryd.prog wr = _ := fun ty => Lib.run_next_any_at wr (w.heap.size) s pos ty hki hp
      have hwd := Lib.width_pos s pos
      have hwe := Utf8_end s pos hp
      have hsm := decode_small s pos
      have HST := Lib.hid (lettersGo_step (f := f) hp)
      have hbx := Lib.below_iterAt HB.out (k := w.heap.size) (by omega) s (pos + (Utf8.decode s pos).2)
      have hkx := Lib.iterAt_heap wr (w.heap.size) s pos (pos + (Utf8.decode s pos).2) hki
      have henv := HE.out.below hbx
      have HCALL := Lib.hid (Tryd.unicode_IsLetter_any letterT ((Utf8.decode s pos).1 : Nat) (wr.iterAt (w.heap.size) s (pos + (Utf8.decode s pos).2)) (by omega) (by omega) henv.props henv.letters Lib.letterT_ok)
      obtain ⟨lb, hlb⟩ : ∃ lb, lb = letterB (Utf8.decode s pos).1 := ⟨_, rfl⟩
      have HLB := Lib.hid hlb
      have HBX := Lib.hid hbx
      have HKX := Lib.hid hkx
      clear hki hbx hkx henv hlb
      go_wp2_with fail
      refine HCALL.out.mono ?_
      rintro e w3 ⟨rfl, hb3⟩
      have hk3 := (hb3.block (w.heap.size) (Array.getElem?_eq_some_iff.1 HKX.out).1).trans HKX.out
      have HB3 := Lib.hid (HBX.out.trans (hb3.mono HBX.out.size))
      have HK3 := Lib.hid hk3
      rw [show (if Lib.latin1 ((Utf8.decode s pos).1 : Int) = true then Lib.isLetterL ((Utf8.decode s pos).1 : Int) else Lib.exclGo letterT ((Utf8.decode s pos).1 : Int)) = lb from HLB.out.symm]
      clear hb3 hk3
      cases lb with
      | false =>
        go_wp2_with fail
        go_ret2
        have h1 : lettersGo s s.size 0 = false := by rw [← HLG.out, HST.out, ← HLB.out]; rfl
        exact ⟨pairb_ret (lettersN_yes H0.out h1), HB3.out⟩
      | true =>
        go_wp2_with fail
        go_roundw
        case rel => exact ⟨pos + (Utf8.decode s pos).2, f, HK3.out, by omega, by omega, by rw [← HLG.out, HST.out, ← HLB.out]; rfl, HB3.out⟩
        case measure =>
          rw [itPos_of HK3.out, itPos_of HKI2.out]
          omega
    · have hnx : ∀ ty, (Instr.next (.pointer (some ⟨w.heap.size, 0, none⟩)) true ty).run Tryd.prog wr = _ := fun ty => Lib.run_next_end_at wr (w.heap.size) s pos ty hki hp
      have HEN := Lib.hid (lettersGo_end (f := fuel) hp)
      clear hki
      go_wp2_with fail
      go_ret2
      have h1 : lettersGo s s.size 0 = true := by rw [← HLG.out, HEN.out]
      exact ⟨pairb_ret (lettersN_yes H0.out h1), HB.out⟩

def bad (c : Nat) : Bool := decide (up c = 101 ∨ up c = 112 ∨ up c = 120 ∨ up c = 105 ∨ up c = 110 ∨ up c = 97 ∨ up c = 95)
/-- Whether something odd is among the signs of a decimal number. -/
def oddL (l : List Nat) : Bool := (signOf l).2.any (fun c => !isD c && !(decide (c = 46)))
def plainN (l : List Nat) : Int :=
  if l.any bad then 2 else if 30 < l.length then 2 else if oddL l = true ∨ l.countP isD = 0 ∨ 1 < l.countP (fun c => decide (c = 46)) then 0 else 1
theorem odd_snoc {l : List Nat} {c : Nat} (h : l ≠ []) : oddL (l ++ [c]) = (oddL l || (!isD c && !(decide (c = 46)))) := by
  cases l with
  | nil => exact absurd rfl h
  | cons d l =>
    unfold oddL
    simp only [List.cons_append, signOf]
    split
    · simp
    · split <;> simp [Bool.or_assoc]
theorem odd_one (c : Nat) : oddL [c] = if c = 43 ∨ c = 45 then false else (!isD c && !(decide (c = 46))) := by
  unfold oddL
  simp only [signOf]
  split
  · simp [*]
  · split <;> simp [*]
theorem count_snoc (p : Nat → Bool) (l : List Nat) (c : Nat) : (l ++ [c]).countP p = l.countP p + (if p c then 1 else 0) := by
  rw [List.countP_append]
  simp [List.countP_cons]
theorem count_le (p : Nat → Bool) (l : List Nat) (k : Nat) : (l.take k).countP p ≤ l.length := Nat.le_trans (List.countP_le_length) (by rw [List.length_take]; omega)

set_option maxHeartbeats 4000000 in
set_option maxRecDepth 100000 in
theorem plain_any (s : ByteArray) (w : World) (hs : s.size ≤ 1000000000) :
    Calls Tryd.prog 15 #[.string s] w fun e w' => e = .returned (.int .i64 (plainN (ns s))) ∧ w' = w := by
  obtain ⟨R, hR⟩ : ∃ R, R = plainN (ns s) := ⟨_, rfl⟩
  rw [← hR]
  have HR := Lib.hid hR
  clear hR
  go_enter Tryd.func15, Tryd.ntmps15
  go_wp2_with fail
  go_loop [3, 4, 5, 11] (fun d p o i => ∃ (k D P : Nat) (O : Bool), k ≤ s.size ∧ i = .int .i64 k ∧ d = .int .i64 D ∧ p = .int .i64 P ∧ o = .bool O ∧ D ≤ s.size ∧ P ≤ s.size ∧ D = ((ns s).take k).countP isD ∧ P = ((ns s).take k).countP (fun c => decide (c = 46)) ∧ O = oddL ((ns s).take k)) (fun d p o i => s.size - (intOf i).toNat)
  case atStart => exact ⟨0, 0, 0, false, Nat.zero_le _, rfl, rfl, rfl, rfl, Nat.zero_le _, Nat.zero_le _, rfl, rfl, rfl⟩
  case round =>
    obtain ⟨k, D, P, O, hk, rfl, rfl, rfl, rfl, hDs, hPs, hD, hP, hO⟩ := hrel
    have HD := Lib.hid hD
    have HP := Lib.hid hP
    have HO := Lib.hid hO
    clear hD hP hO
    by_cases hlt : k < s.size
    · have e0 := ns_drop s k hlt
      obtain ⟨x, hx⟩ : ∃ x : Nat, (s[k]'hlt).toNat = x := ⟨_, rfl⟩
      rw [hx] at e0
      have TK := Lib.hid (take_step e0)
      have hD1 : ((ns s).take (k + 1)).countP isD = D + (if isD x then 1 else 0) := by rw [TK.out, count_snoc, ← HD.out]
      have hP1 : ((ns s).take (k + 1)).countP (fun c => decide (c = 46)) = P + (if decide (x = 46) then 1 else 0) := by rw [TK.out, count_snoc, ← HP.out]
      have hO1 : oddL ((ns s).take (k + 1)) = if k = 0 ∧ (x = 43 ∨ x = 45) then false else (O || (!isD x && !(decide (x = 46)))) := by
        rw [TK.out]
        by_cases hk0 : k = 0
        · have : (ns s).take k = [] := by rw [hk0]; rfl
          have hof : O = false := by rw [HO.out, this]; rfl
          rw [this, List.nil_append, odd_one, hof, Bool.false_or]
          simp only [hk0, true_and]
        · rw [if_neg (fun h => hk0 h.1), odd_snoc, ← HO.out]
          intro h
          have := congrArg List.length h
          rw [List.length_take, ns_len, List.length_nil] at this
          omega
      have LD := count_le isD (ns s) (k + 1)
      have LP := count_le (fun c => decide (c = 46)) (ns s) (k + 1)
      rw [ns_len, hD1] at LD
      rw [ns_len, hP1] at LP
      have HD1 := Lib.hid hD1
      have HP1 := Lib.hid hP1
      have HO1 := Lib.hid hO1
      have HLD := Lib.hid LD
      have HLP := Lib.hid LP
      clear e0 hD1 hP1 hO1 LD LP
      by_cases hdg : 48 ≤ x ∧ x ≤ 57
      · have b1 : decide ((48 : Int) ≤ (x : Int)) = true := decide_eq_true (by omega)
        have b2 : decide ((x : Int) ≤ 57) = true := decide_eq_true (by omega)
        have HG := Lib.hid hdg
        clear hdg
        have hd1 : D + 1 ≤ s.size := by have := HLD.out; rw [isD_yes HG.out] at this; simpa using this
        go_wp2_with fail
        go_round
        case rel =>
          refine ⟨k + 1, D + 1, P, O, by omega, by go_num, by go_num, rfl, rfl, hd1, hPs, ?_, ?_, ?_⟩
          · rw [HD1.out, isD_yes HG.out]; rfl
          · rw [HP1.out, decide_eq_false (by have := HG.out; omega)]; rfl
          · rw [HO1.out, if_neg (by have := HG.out; omega), isD_yes HG.out]; simp
        case measure => simp [intOf]; omega
      · have hDD : ((ns s).take (k + 1)).countP isD = D := by rw [HD1.out, isD_no (by omega)]; rfl
        have HDD := Lib.hid hDD
        have hnd : isD x = false := isD_no (by omega)
        have HND := Lib.hid hnd
        clear hDD hnd
        have HOD := Lib.hid (show ¬ (k = 0 ∧ (x = 43 ∨ x = 45)) → x ≠ 46 → true = oddL ((ns s).take (k + 1)) from fun h1 h2 => by
          rw [HO1.out, if_neg h1, HND.out, decide_eq_false h2]; simp)
        have HP0 := Lib.hid (show x ≠ 46 → P = ((ns s).take (k + 1)).countP (fun c => decide (c = 46)) from fun h2 => by
          rw [HP1.out, decide_eq_false h2]; rfl)
        rcases Nat.lt_or_ge x 48 with h48 | h48
        · have b1 : decide ((48 : Int) ≤ (x : Int)) = false := decide_eq_false (by omega)
          clear hdg
          by_cases h46 : x = 46
          · have b46 : ((x : Int) == 46) = true := by rw [h46]; rfl
            have hp1 : P + 1 ≤ s.size := by have := HLP.out; rw [decide_eq_true h46] at this; simpa using this
            have H46 := Lib.hid h46
            clear h46
            go_wp2_with fail
            go_round
            case rel =>
              refine ⟨k + 1, D, P + 1, O, by omega, by go_num, rfl, by go_num, rfl, hDs, hp1, HDD.out.symm, ?_, ?_⟩
              · rw [HP1.out, decide_eq_true H46.out]; rfl
              · rw [HO1.out, if_neg (by have := H46.out; omega), decide_eq_true H46.out]; simp
            case measure => simp [intOf]; omega
          · have b46 : ((x : Int) == 46) = false := beq_eq_false_iff_ne.2 (by omega)
            have hP0 := HP0.out h46
            have HP2 := Lib.hid hP0
            have H46 := Lib.hid h46
            clear h46 hP0
            by_cases hk0 : k = 0
            · have b0 : ((k : Int) == 0) = true := by rw [hk0]; rfl
              have hof : O = oddL ((ns s).take (k + 1)) ∨ ¬ (x = 43 ∨ x = 45) := by
                by_cases hsg : x = 43 ∨ x = 45
                · refine .inl ?_
                  rw [HO1.out, if_pos ⟨hk0, hsg⟩, HO.out, hk0]
                  rfl
                · exact .inr hsg
              have HOF := Lib.hid hof
              have HK0 := Lib.hid hk0
              clear hof hk0
              rcases (show x = 45 ∨ x = 43 ∨ (x ≠ 45 ∧ x ≠ 43) by omega) with h | h | ⟨h, h'⟩
              · have b45 : ((x : Int) == 45) = true := by rw [h]; rfl
                have HX := Lib.hid h
                clear h
                go_wp2_with fail
                go_round
                case rel => exact ⟨k + 1, D, P, O, by omega, by go_num, rfl, rfl, rfl, hDs, hPs, HDD.out.symm, HP2.out, by rcases HOF.out with h | h; exact h; exact absurd (.inr HX.out) h⟩
                case measure => simp [intOf]; omega
              · have b45 : ((x : Int) == 45) = false := by rw [h]; rfl
                have b43 : ((x : Int) == 43) = true := by rw [h]; rfl
                have HX := Lib.hid h
                clear h
                go_wp2_with fail
                go_round
                case rel => exact ⟨k + 1, D, P, O, by omega, by go_num, rfl, rfl, rfl, hDs, hPs, HDD.out.symm, HP2.out, by rcases HOF.out with h | h; exact h; exact absurd (.inl HX.out) h⟩
                case measure => simp [intOf]; omega
              · have b45 : ((x : Int) == 45) = false := beq_eq_false_iff_ne.2 (by omega)
                have b43 : ((x : Int) == 43) = false := beq_eq_false_iff_ne.2 (by omega)
                have HX := Lib.hid (HOD.out (by omega) H46.out)
                clear h h'
                go_wp2_with fail
                go_round
                case rel => exact ⟨k + 1, D, P, true, by omega, by go_num, rfl, rfl, rfl, hDs, hPs, HDD.out.symm, HP2.out, HX.out⟩
                case measure => simp [intOf]; omega
            · have b0 : ((k : Int) == 0) = false := beq_eq_false_iff_ne.2 (by omega)
              have HX := Lib.hid (HOD.out (by omega) H46.out)
              clear hk0
              rcases (show x = 45 ∨ x = 43 ∨ (x ≠ 45 ∧ x ≠ 43) by omega) with h | h | ⟨h, h'⟩
              · have b45 : ((x : Int) == 45) = true := by rw [h]; rfl
                clear h
                go_wp2_with fail
                go_round
                case rel => exact ⟨k + 1, D, P, true, by omega, by go_num, rfl, rfl, rfl, hDs, hPs, HDD.out.symm, HP2.out, HX.out⟩
                case measure => simp [intOf]; omega
              · have b45 : ((x : Int) == 45) = false := by rw [h]; rfl
                have b43 : ((x : Int) == 43) = true := by rw [h]; rfl
                clear h
                go_wp2_with fail
                go_round
                case rel => exact ⟨k + 1, D, P, true, by omega, by go_num, rfl, rfl, rfl, hDs, hPs, HDD.out.symm, HP2.out, HX.out⟩
                case measure => simp [intOf]; omega
              · have b45 : ((x : Int) == 45) = false := beq_eq_false_iff_ne.2 (by omega)
                have b43 : ((x : Int) == 43) = false := beq_eq_false_iff_ne.2 (by omega)
                clear h h'
                go_wp2_with fail
                go_round
                case rel => exact ⟨k + 1, D, P, true, by omega, by go_num, rfl, rfl, rfl, hDs, hPs, HDD.out.symm, HP2.out, HX.out⟩
                case measure => simp [intOf]; omega
        · have b1 : decide ((48 : Int) ≤ (x : Int)) = true := decide_eq_true (by omega)
          have b2 : decide ((x : Int) ≤ 57) = false := decide_eq_false (by omega)
          have b46 : ((x : Int) == 46) = false := beq_eq_false_iff_ne.2 (by omega)
          have b45 : ((x : Int) == 45) = false := beq_eq_false_iff_ne.2 (by omega)
          have b43 : ((x : Int) == 43) = false := beq_eq_false_iff_ne.2 (by omega)
          have HX := Lib.hid (HOD.out (by omega) (by omega))
          have HP2 := Lib.hid (HP0.out (by omega))
          clear hdg
          go_wp2_with fail
          go_round
          case rel => exact ⟨k + 1, D, P, true, by omega, by go_num, rfl, rfl, rfl, hDs, hPs, HDD.out.symm, HP2.out, HX.out⟩
          case measure => simp [intOf]; omega
    · obtain rfl : k = s.size := by omega
      have htk : (ns s).take s.size = ns s := List.take_of_length_le (by rw [ns_len]; omega)
      have HD2 := Lib.hid (show D = (ns s).countP isD by rw [HD.out, htk])
      have HP2 := Lib.hid (show P = (ns s).countP (fun c => decide (c = 46)) by rw [HP.out, htk])
      have HO2 := Lib.hid (show O = oddL (ns s) by rw [HO.out, htk])
      clear htk HD HP HO
      go_wp2_with fail
      go_loop [45] (fun i => ∃ k : Nat, k ≤ s.size ∧ i = .int .i64 k ∧ (ns s).any bad = ((ns s).drop k).any bad) (fun i => s.size - (intOf i).toNat)
      case atStart => exact ⟨0, Nat.zero_le _, rfl, rfl⟩
      case round =>
        obtain ⟨k, hk, rfl, hall⟩ := hrel
        have HA := Lib.hid hall
        clear hall
        by_cases hlt : k < s.size
        · have e0 := ns_drop s k hlt
          obtain ⟨x, hx⟩ : ∃ x : Nat, (s[k]'hlt).toNat = x := ⟨_, rfl⟩
          have hx256 : x < 256 := by rw [← hx]; exact ns_lt s k hlt
          rw [hx] at e0
          have HS := Lib.hid (show (ns s).any bad = (bad x || ((ns s).drop (k + 1)).any bad) by rw [HA.out, e0, List.any_cons])
          clear e0
          have HC := Lib.hid (fold_any x hx256)
          obtain ⟨u, hu⟩ : ∃ u, u = up x := ⟨_, rfl⟩
          rw [← hu] at HC
          have HU := Lib.hid hu
          clear hu
          by_cases hbd : u = 101 ∨ u = 112 ∨ u = 120 ∨ u = 105 ∨ u = 110 ∨ u = 97 ∨ u = 95
          · have hbx : bad x = true := by unfold bad; rw [← HU.out]; exact decide_eq_true hbd
            have hRR : R = 2 := by rw [HR.out]; unfold plainN; rw [if_pos (by rw [HS.out, hbx]; rfl)]
            have HRR := Lib.hid hRR
            clear hbx hRR HU
            have hall : ∀ v : Nat, u = v → ((u : Int) == (v : Int)) = true := fun v h => by rw [h]; simp
            rcases hbd with h | h | h | h | h | h | h
            all_goals
              subst h
              go_wp2_with (refine (HC.out _).mono ?_; rintro e w' ⟨rfl, rfl⟩)
              go_ret
              exact ⟨by rw [HRR.out]; rfl, rfl⟩
          · have hbx : bad x = false := by unfold bad; rw [← HU.out]; exact decide_eq_false hbd
            have HBX := Lib.hid hbx
            have c1 : ((u : Int) == 101) = false := beq_eq_false_iff_ne.2 (by omega)
            have c2 : ((u : Int) == 112) = false := beq_eq_false_iff_ne.2 (by omega)
            have c3 : ((u : Int) == 120) = false := beq_eq_false_iff_ne.2 (by omega)
            have c4 : ((u : Int) == 105) = false := beq_eq_false_iff_ne.2 (by omega)
            have c5 : ((u : Int) == 110) = false := beq_eq_false_iff_ne.2 (by omega)
            have c6 : ((u : Int) == 97) = false := beq_eq_false_iff_ne.2 (by omega)
            have c7 : ((u : Int) == 95) = false := beq_eq_false_iff_ne.2 (by omega)
            clear hbx hbd HU
            go_wp2_with (refine (HC.out _).mono ?_; rintro e w' ⟨rfl, rfl⟩)
            go_round
            case rel => exact ⟨k + 1, by omega, by go_num, by rw [HS.out, HBX.out]; rfl⟩
            case measure => simp [intOf]; omega
        · obtain rfl : k = s.size := by omega
          have hnb : (ns s).any bad = false := by rw [HA.out, ns_end s _ (Nat.le_refl _)]; rfl
          have hR2 : R = if 30 < s.size then 2 else if O = true ∨ D = 0 ∨ 1 < P then 0 else 1 := by
            rw [HR.out]; unfold plainN
            rw [if_neg (by rw [hnb]; decide), ns_len, ← HO2.out, ← HD2.out, ← HP2.out]
          have HR2 := Lib.hid hR2
          clear hnb hR2 HD2 HP2 HO2 HA HR
          by_cases h30 : 30 < s.size
          · have b1 : decide ((30 : Int) < (s.size : Int)) = true := decide_eq_true (by omega)
            have HF := Lib.hid (HR2.out.trans (if_pos h30))
            clear h30
            go_wp2_with fail
            go_ret
            exact ⟨by rw [HF.out]; rfl, rfl⟩
          have b1 : decide ((30 : Int) < (s.size : Int)) = false := decide_eq_false (by omega)
          have HR3 := Lib.hid (HR2.out.trans (if_neg h30))
          clear h30 HR2
          cases O with
          | true =>
            have HF := Lib.hid (HR3.out.trans (if_pos (.inl rfl)))
            go_wp2_with fail
            go_ret
            exact ⟨by rw [HF.out]; rfl, rfl⟩
          | false =>
            by_cases hD0 : D = 0
            · have b2 : ((D : Int) == 0) = true := by rw [hD0]; rfl
              have HF := Lib.hid (HR3.out.trans (if_pos (.inr (.inl hD0))))
              clear hD0
              go_wp2_with fail
              go_ret
              exact ⟨by rw [HF.out]; rfl, rfl⟩
            · have b2 : ((D : Int) == 0) = false := beq_eq_false_iff_ne.2 (by omega)
              by_cases hP1 : 1 < P
              · have b3 : decide ((1 : Int) < (P : Int)) = true := decide_eq_true (by omega)
                have HF := Lib.hid (HR3.out.trans (if_pos (.inr (.inr hP1))))
                clear hD0 hP1
                go_wp2_with fail
                go_ret
                exact ⟨by rw [HF.out]; rfl, rfl⟩
              · have b3 : decide ((1 : Int) < (P : Int)) = false := decide_eq_false (by omega)
                have HF := Lib.hid (HR3.out.trans (if_neg (by simp; omega)))
                clear hD0 hP1
                go_wp2_with fail
                go_ret
                exact ⟨by rw [HF.out]; rfl, rfl⟩
end Go.Proofs.YtiebedcldbmlhaaDoor
