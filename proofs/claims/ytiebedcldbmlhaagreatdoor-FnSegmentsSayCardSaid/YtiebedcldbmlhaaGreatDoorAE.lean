/-
  The laws' functions on lists of texts: zzFits1, short, plainParts. Conditions: of a size that addresses allow.
-/
import Derived.Test.YtiebedcldbmlhaaGreatDoorAD
namespace Go.Proofs.YtiebedcldbmlhaaGreatDoor
open Go.RowKit
set_option linter.unusedVariables false

/-- Where a list of texts lies. -/
def TextsAt (w : World) (ao : Option Addr) (ss : List ByteArray) : Prop := ss = [] ∨ ∃ b off, ao = some ⟨b, off, none⟩ ∧ StrCells w b off ss
theorem TextsAt.below {w w' : World} {ao : Option Addr} {ss : List ByteArray} (h : TextsAt w ao ss) (hb : Below w.heap.size w w') : TextsAt w' ao ss := by
  rcases h with h | ⟨b, off, h1, h2⟩
  · exact .inl h
  · exact .inr ⟨b, off, h1, fun i hi => (hb.cell (p := ⟨b, off + i, none⟩) (cell_lt (h2 i hi))).trans (h2 i hi)⟩

def fitsB (ss : List ByteArray) : Bool := decide (ss.length ≤ 2147483647) && ss.all fun s => decide (s.size ≤ 2147483647)
theorem all_no {ss : List ByteArray} {k : Nat} {f : ByteArray → Bool} (hk : k < ss.length) (h : f (ss.getD k ByteArray.empty) = false) : ss.all f = false := by
  rw [List.all_eq_false]
  refine ⟨ss[k], List.getElem_mem _, ?_⟩
  simpa [List.getD, hk] using h
theorem all_yes {ss : List ByteArray} {f : ByteArray → Bool} (h : ∀ i, i < ss.length → f (ss.getD i ByteArray.empty) = true) : ss.all f = true := by
  rw [List.all_eq_true]
  intro s hs
  obtain ⟨i, hi, rfl⟩ := List.getElem_of_mem hs
  have := h i hi
  simpa [List.getD, hi] using this

set_option maxHeartbeats 1000000 in
theorem fits_any (ao : Option Addr) (cap : Nat) (ss : List ByteArray) (w : World) (hl : ss.length ≤ maxLen) (hc : TextsAt w ao ss) :
    Calls Tryz.prog 14 #[.slice ao ss.length cap] w fun e w' => e = .returned (.bool (fitsB ss)) ∧ w = w' := by
  unfold maxLen at hl
  obtain ⟨n, hn⟩ : ∃ n, n = ss.length := ⟨_, rfl⟩
  have HN := Lib.hid hn
  have HC := Lib.hid hc
  rw [← hn] at hl ⊢
  clear hc hn
  go_enter Tryz.func14, Tryz.ntmps14
  by_cases hbig : 2147483647 < n
  · go_wp2
    go_ret
    exact ⟨ret_bool (by unfold fitsB; rw [← HN.out, decide_eq_false (by omega)]; rfl), rfl⟩
  · go_wp2
    go_loop [10] (fun i => ∃ k : Nat, k ≤ n ∧ i = .int .i64 k ∧ (∀ j, j < k → decide ((ss.getD j ByteArray.empty).size ≤ 2147483647) = true)) (fun i => n - (intOf i).toNat)
    case atStart => exact ⟨0, Nat.zero_le _, rfl, fun j h => absurd h (Nat.not_lt_zero _)⟩
    case round =>
      obtain ⟨k, hk, rfl, hall⟩ := hrel
      have HA := Lib.hid hall
      clear hall
      by_cases hlt : k < n
      · rcases HC.out with h0 | ⟨b, off, rfl, hcells⟩
        · have h1 := HN.out
          rw [h0] at h1; simp at h1; omega
        have hck := hcells k (by have := HN.out; omega)
        obtain ⟨s, hs⟩ : ∃ s, s = ss.getD k ByteArray.empty := ⟨_, rfl⟩
        rw [← hs] at hck
        have HS := Lib.hid hs
        clear hs hcells
        by_cases hsz : s.size ≤ 2147483647
        · go_wp2
          go_round
          case rel => exact ⟨k + 1, by omega, by go_num, fun j hj => by
              rcases Nat.lt_or_ge j k with h | h
              · exact HA.out j h
              · obtain rfl : j = k := by omega
                rw [← HS.out]; exact decide_eq_true hsz⟩
          case measure => simp [intOf]; omega
        · go_wp2
          go_ret
          exact ⟨ret_bool (by unfold fitsB; rw [all_no (k := k) (by have := HN.out; omega) (by rw [← HS.out]; exact decide_eq_false hsz), Bool.and_false]), rfl⟩
      · obtain rfl : k = n := by omega
        go_wp2
        go_ret
        exact ⟨ret_bool (by unfold fitsB; rw [all_yes (fun i hi => HA.out i (by have := HN.out; omega)), ← HN.out, decide_eq_true (by omega)]; rfl), rfl⟩

set_option maxHeartbeats 1000000 in
theorem short_any (ao : Option Addr) (cap : Nat) (ss : List ByteArray) (w : World) (hl : ss.length ≤ maxLen) (hc : TextsAt w ao ss) :
    Calls Tryz.prog 22 #[.slice ao ss.length cap] w fun e w' => e = .returned (.bool (shortB ss)) ∧ w = w' := by
  rcases hc with rfl | ⟨b, off, rfl, hcells⟩
  · go_enter Tryz.func22, Tryz.ntmps22
    go_wp2
    go_loop [7] (fun i => i = .int .i64 0) (fun i => 0)
    case atStart => rfl
    case round =>
      subst hrel
      go_wp2
      go_ret
      exact ⟨rfl, rfl⟩
  · exact short_some b off cap ss w hl hcells

/-- plainParts, as the law's function has it. -/
def plainB (ps vs : List ByteArray) : Bool :=
  decide (ps.length ≠ 0) && (decide (ps.length ≤ 12) && (shortB ps && (shortB vs && (ps.all (fun p => wordS p.data.toList) && vs.all (fun v => !(v.data.toList.isEmpty || holdsB v.data.toList 47))))))

set_option maxHeartbeats 2000000 in
theorem plain_any (a0 a1 : Option Addr) (c0 c1 : Nat) (ps vs : List ByteArray) (w : World) (hl0 : ps.length ≤ maxLen) (hl1 : vs.length ≤ maxLen) (h0 : TextsAt w a0 ps) (h1 : TextsAt w a1 vs)
    (hs0 : ∀ s ∈ ps, s.size ≤ 140737488351232) (hs1 : ∀ s ∈ vs, s.size ≤ 140737488351232) :
    Calls Tryz.prog 16 #[.slice a0 ps.length c0, .slice a1 vs.length c1] w fun e w' => e = .returned (.bool (plainB ps vs)) ∧ w = w' := by
  have HP := Lib.hid (short_any a0 c0 ps w hl0 h0)
  have HV := Lib.hid (short_any a1 c1 vs w hl1 h1)
  unfold maxLen at hl0 hl1
  obtain ⟨n, hn⟩ : ∃ n, n = ps.length := ⟨_, rfl⟩
  obtain ⟨m, hm⟩ : ∃ m, m = vs.length := ⟨_, rfl⟩
  rw [← hn] at HP hl0 ⊢
  rw [← hm] at HV hl1 ⊢
  have HN := Lib.hid hn
  have HM := Lib.hid hm
  have H0 := Lib.hid h0
  have H1 := Lib.hid h1
  have HS0 := Lib.hid hs0
  have HS1 := Lib.hid hs1
  clear hn hm h0 h1 hs0 hs1
  go_enter Tryz.func16, Tryz.ntmps16
  by_cases hz : n = 0
  · have HZ := Lib.hid hz
    go_wp2_with fail
    go_ret
    exact ⟨ret_bool (by unfold plainB; rw [← HN.out, decide_eq_false (by simp [HZ.out])]; rfl), rfl⟩
  · by_cases h12 : n ≤ 12
    · have HD : plainB ps vs = (shortB ps && (shortB vs && (ps.all (fun p => wordS p.data.toList) && vs.all (fun v => !(v.data.toList.isEmpty || holdsB v.data.toList 47))))) := by
        unfold plainB
        rw [← HN.out, decide_eq_true hz, decide_eq_true h12]
        rfl
      have HD2 := Lib.hid HD
      clear HD
      have q1 : ((n : Int) == 0) = false := by rw [beq_eq_false_iff_ne]; omega
      have q2 : decide ((12 : Int) < (n : Int)) = false := decide_eq_false (by omega)
      go_wp2_with fail
      refine HP.out.mono ?_
      rintro e w1 ⟨rfl, rfl⟩
      cases hp : shortB ps with
      | false =>
        have HB := Lib.hid hp
        clear hp
        go_wp2_with fail
        go_ret
        exact ⟨ret_bool (by rw [HD2.out, HB.out]; rfl), rfl⟩
      | true =>
        have HB := Lib.hid hp
        clear hp
        go_wp2_with fail
        refine HV.out.mono ?_
        rintro e w1 ⟨rfl, rfl⟩
        cases hv : shortB vs with
        | false =>
          have HB2 := Lib.hid hv
          clear hv
          go_wp2_with fail
          go_ret
          exact ⟨ret_bool (by rw [HD2.out, HB.out, HB2.out]; rfl), rfl⟩
        | true =>
          have HB2 := Lib.hid hv
          clear hv
          have HD3 := Lib.hid (show plainB ps vs = (ps.all (fun p => wordS p.data.toList) && vs.all (fun v => !(v.data.toList.isEmpty || holdsB v.data.toList 47))) by rw [HD2.out, HB.out, HB2.out]; rfl)
          clear HD2
          go_wp2_with fail
          go_loop [29] (fun i => ∃ k : Nat, k ≤ n ∧ i = .int .i64 k ∧ (∀ j, j < k → wordS (ps.getD j ByteArray.empty).data.toList = true)) (fun i => n - (intOf i).toNat)
          case atStart => exact ⟨0, Nat.zero_le _, rfl, fun j h => absurd h (Nat.not_lt_zero _)⟩
          case round =>
            obtain ⟨k, hk, rfl, hall⟩ := hrel
            have HA := Lib.hid hall
            clear hall
            by_cases hlt : k < n
            · rcases H0.out with h0 | ⟨b, off, rfl, hcells⟩
              · have h1 := HN.out
                rw [h0] at h1; simp at h1; omega
              have hck := hcells k (by have := HN.out; omega)
              obtain ⟨s, hs⟩ : ∃ s, s = ps.getD k ByteArray.empty := ⟨_, rfl⟩
              have hsz : s.size ≤ 140737488351232 := HS0.out s (by rw [hs]; have hkl : k < ps.length := by have := HN.out; omega
                                                                   rw [List.getD_eq_getElem?_getD, List.getElem?_eq_getElem hkl]; exact List.getElem_mem _)
              rw [← hs] at hck
              have HS := Lib.hid hs
              clear hs hcells
              go_wp2_with fail
              refine (word_any s w hsz).mono ?_
              rintro e w1 ⟨rfl, rfl⟩
              cases hw : wordS s.data.toList with
              | false =>
                have HW := Lib.hid hw
                clear hw
                go_wp2_with fail
                go_ret
                exact ⟨ret_bool (by rw [HD3.out, all_no (k := k) (by have := HN.out; omega) (by rw [← HS.out]; exact HW.out)]; rfl), rfl⟩
              | true =>
                have HW := Lib.hid hw
                clear hw
                go_wp2_with fail
                go_round
                case rel => exact ⟨k + 1, by omega, by go_num, fun j hj => by
                    rcases Nat.lt_or_ge j k with h | h
                    · exact HA.out j h
                    · obtain rfl : j = k := by omega
                      rw [← HS.out]; exact HW.out⟩
                case measure => simp [intOf]; omega
            · obtain rfl : k = n := by omega
              have HD4 := Lib.hid (show plainB ps vs = vs.all (fun v => !(v.data.toList.isEmpty || holdsB v.data.toList 47)) by
                rw [HD3.out, all_yes (fun i hi => HA.out i (by have := HN.out; omega))]; rfl)
              clear HA
              go_wp2_with fail
              go_loop [39] (fun i => ∃ k : Nat, k ≤ m ∧ i = .int .i64 k ∧ (∀ j, j < k → (!((vs.getD j ByteArray.empty).data.toList.isEmpty || holdsB (vs.getD j ByteArray.empty).data.toList 47)) = true)) (fun i => m - (intOf i).toNat)
              case atStart => exact ⟨0, Nat.zero_le _, rfl, fun j h => absurd h (Nat.not_lt_zero _)⟩
              case round =>
                obtain ⟨j0, hk, rfl, hall⟩ := hrel
                have HA := Lib.hid hall
                clear hall
                by_cases hlt : j0 < m
                · rcases H1.out with h0 | ⟨b, off, rfl, hcells⟩
                  · have h1 := HM.out
                    rw [h0] at h1; simp at h1; omega
                  have hck := hcells j0 (by have := HM.out; omega)
                  obtain ⟨s, hs⟩ : ∃ s, s = vs.getD j0 ByteArray.empty := ⟨_, rfl⟩
                  have hsz : s.size ≤ 140737488351232 := HS1.out s (by rw [hs]; have hkl : j0 < vs.length := by have := HM.out; omega
                                                                       rw [List.getD_eq_getElem?_getD, List.getElem?_eq_getElem hkl]; exact List.getElem_mem _)
                  rw [← hs] at hck
                  have HS := Lib.hid hs
                  have hte : s.toList.isEmpty = s.data.toList.isEmpty := by rw [Lib.toList_data]
                  have HTE := Lib.hid hte
                  clear hs hcells hte
                  cases hem : s.toList.isEmpty with
                  | true =>
                    have HEM := Lib.hid (HTE.out.symm.trans hem)
                    go_wp2_with fail
                    go_ret
                    exact ⟨ret_bool (by rw [HD4.out, all_no (k := j0) (by have := HM.out; omega) (by rw [← HS.out, HEM.out]; rfl)]), rfl⟩
                  | false =>
                    have HEM := Lib.hid (HTE.out.symm.trans hem)
                    go_wp2_with fail
                    refine (holds_any s 47 w hsz).mono ?_
                    rintro e w1 ⟨rfl, rfl⟩
                    cases hh : holdsB s.data.toList 47 with
                    | true =>
                      have HH := Lib.hid hh
                      clear hh
                      go_wp2_with fail
                      go_ret
                      exact ⟨ret_bool (by rw [HD4.out, all_no (k := j0) (by have := HM.out; omega) (by rw [← HS.out, HEM.out, HH.out]; rfl)]), rfl⟩
                    | false =>
                      have HH := Lib.hid hh
                      clear hh
                      go_wp2_with fail
                      go_round
                      case rel => exact ⟨j0 + 1, by omega, by go_num, fun j hj => by
                          rcases Nat.lt_or_ge j j0 with h | h
                          · exact HA.out j h
                          · obtain rfl : j = j0 := by omega
                            rw [← HS.out, HEM.out, HH.out]; rfl⟩
                      case measure => simp [intOf]; omega
                · obtain rfl : j0 = m := by omega
                  go_wp2_with fail
                  go_ret
                  exact ⟨ret_bool (by rw [HD4.out, all_yes (fun i hi => HA.out i (by have := HM.out; omega))]), rfl⟩
    · go_wp2_with fail
      go_ret
      exact ⟨ret_bool (by unfold plainB; rw [← HN.out, decide_eq_false h12]; simp), rfl⟩
end Go.Proofs.YtiebedcldbmlhaaGreatDoor
