/-
  The law FnMatchesValues returns true and writes nothing that was there. Conditions: the table that Itoa reads; of a size that addresses allow.
-/
import Derived.Test.YtiebedcldbmlhaaGreatDoorAL
namespace Go.Proofs.YtiebedcldbmlhaaGreatDoor
open Go.RowKit
set_option linter.unusedVariables false

set_option maxHeartbeats 2000000 in
set_option maxRecDepth 100000 in
theorem values_walk (a0 a1 a2 : Option Addr) (c0 c1 c2 : Nat) (ps vs : List ByteArray) (ks : List Nat) (p : ByteArray) (w : World) (hE : EnvZ w) (hl0 : ps.length ≤ maxLen) (hl1 : vs.length ≤ maxLen) (hl2 : ks.length ≤ maxLen) (h0 : TextsAt w a0 ps) (h1 : TextsAt w a1 vs) (h2 : KindsAt w a2 ks) (hk2 : ∀ i, ks.getD i 0 < 256) (hps : p.size ≤ 140737488351232) :
    Calls Tryz.prog 13 #[.slice a0 ps.length c0, .slice a1 vs.length c1, .slice a2 ks.length c2, .string p] w fun e w' => e = .returned (.bool true) ∧ Below w.heap.size w w' := by
  have HF0 := Lib.hid (fits_any a0 c0 ps w hl0 h0)
  have HF1 := Lib.hid (fits_any a1 c1 vs w hl1 h1)
  have HMA := Lib.hid (match_ab w hE)
  have HE := Lib.hid hE
  have H0 := Lib.hid h0
  have H1 := Lib.hid h1
  have H2 := Lib.hid h2
  have HK := Lib.hid hk2
  have HL0 := Lib.hid hl0
  have HL1 := Lib.hid hl1
  unfold maxLen at hl0 hl1 hl2
  clear hE h0 h1 h2 hk2
  go_enter Tryz.func13, Tryz.ntmps13
  go_wp2_with fail
  refine HF0.out.mono ?_
  rintro e w0 ⟨rfl, rfl⟩
  cases hf0 : fitsB ps with
  | false =>
    go_wp2_with fail
    go_ret
    exact ⟨rfl, Below.refl _ _⟩
  | true =>
    have HB0 := Lib.hid (fitsB_yes hf0)
    clear hf0
    go_wp2_with fail
    refine HF1.out.mono ?_
    rintro e w0 ⟨rfl, rfl⟩
    cases hf1 : fitsB vs with
    | false =>
      go_wp2_with fail
      go_ret
      exact ⟨rfl, Below.refl _ _⟩
    | true =>
      have HB1 := Lib.hid (fitsB_yes hf1)
      clear hf1
      by_cases hkb : 2147483647 < ks.length
      · go_wp2_with fail
        go_ret
        exact ⟨rfl, Below.refl _ _⟩
      · have hkl : ks.length ≤ 2147483647 := by omega
        clear hkb
        by_cases hpb : 2147483647 < p.size
        · go_wp2_with fail
          go_ret
          exact ⟨rfl, Below.refl _ _⟩
        · have hpl : p.size ≤ 2147483647 := by omega
          clear hpb
          go_wp2_with fail
          refine HMA.out.mono ?_
          rintro e w1 ⟨rfl, hb1⟩
          have t0 := H0.out.below hb1
          have t1 := H1.out.below hb1
          have t2 := H2.out.below hb1
          have HE1 := Lib.hid (HE.out.below hb1)
          have HW1 := Lib.hid hb1
          have HPL := Lib.hid (plain_any a0 a1 c0 c1 ps vs w1 HL0.out HL1.out t0 t1 (fun s hs => by have := HB0.out.2 s hs; omega) (fun s hs => by have := HB1.out.2 s hs; omega))
          have T0 := Lib.hid t0
          have T1 := Lib.hid t1
          have T2 := Lib.hid t2
          clear hb1 t0 t1 t2
          go_wp2_with fail
          refine HPL.out.mono ?_
          rintro e w1' ⟨rfl, rfl⟩
          cases hplb : plainB ps vs with
          | false =>
            go_wp2_with fail
            go_ret
            exact ⟨rfl, HW1.out⟩
          | true =>
            have HOK := Lib.hid (plainB_yes hplb)
            clear hplb
            go_wp2_with fail
            refine (short_one p w1).mono ?_
            rintro e w2 ⟨rfl, rfl⟩
            obtain ⟨W, hWd⟩ : ∃ W, W = w1.alloc (.cells #[.string p] 9) := ⟨_, rfl⟩
            have hbW : Below w1.heap.size w1 W := by rw [hWd]; exact (Below.refl _ _).alloc (Nat.le_refl _) _
            rw [← hWd]
            have HW2 := Lib.hid (HW1.out.trans (hbW.mono HW1.out.size))
            have HEW := Lib.hid (HE1.out.below hbW)
            have TW0 := Lib.hid (T0.out.below hbW)
            have TW1 := Lib.hid (T1.out.below hbW)
            have TW2 := Lib.hid (T2.out.below hbW)
            clear hWd hbW
            by_cases hsh : p.size ≤ 2000
            · rw [decide_eq_true hsh]
              go_wp2_with fail
              refine (begins_more p ⟨#[47]⟩ W hps (by decide)).mono ?_
              rintro e w2 ⟨⟨x2, hx2, rfl⟩, rfl⟩
              cases x2 with
              | false =>
                go_wp2_with fail
                go_ret
                exact ⟨rfl, HW2.out⟩
              | true =>
                have hp0 : 0 < p.size := by have := hx2 rfl; exact this
                clear hx2
                have HPA := Lib.hid (pattern_any a0 a1 a2 c0 c1 c2 ps vs ks W (by have := HOK.out.few; omega) HOK.out.vfew hkl TW0.out TW1.out TW2.out HOK.out.psz HOK.out.vsz HK.out)
                go_wp2_with fail
                refine HPA.out.mono ?_
                rintro e w3 ⟨v, rfl, hown, hb3⟩
                obtain ⟨T, hmat, hval⟩ := both_pts ps vs ks HOK.out
                have HMAT := Lib.hid hmat
                have HVAL := Lib.hid hval
                obtain ⟨ao, cap, rfl⟩ := own_form hown
                have HW3 := Lib.hid (HW2.out.trans (hb3.mono HW2.out.size))
                have HE3 := Lib.hid (HEW.out.below hb3)
                have hq1 : (bs (pathOf (ptsTo ps vs ks ps.length))).size ≤ 1000000000 := by rw [bs_size]; have h5 := (pat_len (ks := ks) HOK.out.psz HOK.out.vsz ps.length).2.1; have h6 := HOK.out.few; omega
                have hq2 : 0 < (bs (pathOf (ptsTo ps vs ks ps.length))).size := by rw [bs_size]; exact path_pos _ (ptsTo_ne HOK.out)
                obtain ⟨q, hq⟩ : ∃ q, q = bs (pathOf (ptsTo ps vs ks ps.length)) := ⟨_, rfl⟩
                obtain ⟨s, hs⟩ : ∃ s, s = bs (patOf (ptsTo ps vs ks ps.length)) := ⟨_, rfl⟩
                rw [← hq] at hq1 hq2 ⊢
                rw [← hs] at HMAT HVAL ⊢
                clear hown hb3 hmat hval hq hs
                obtain ⟨W4, hW4⟩ : ∃ W4, W4 = w3.alloc (.cells #[.string p, .string q] 9) := ⟨_, rfl⟩
                have hb4 : Below w3.heap.size w3 W4 := by rw [hW4]; exact (Below.refl _ _).alloc (Nat.le_refl _) _
                have k0 : W4.cell? ⟨w3.heap.size, 0, none⟩ = some (.string p) := by rw [hW4]; simp [cell_alloc, objCell]
                have k1 : W4.cell? ⟨w3.heap.size, 1, none⟩ = some (.string q) := by rw [hW4]; simp [cell_alloc, objCell]
                have HW4 := Lib.hid (HW3.out.trans (hb4.mono HW3.out.size))
                have HE4 := Lib.hid (HE3.out.below hb4)
                have K0 := Lib.hid k0
                have K1 := Lib.hid k1
                obtain ⟨g, hg⟩ : ∃ g, g = w3.heap.size := ⟨_, rfl⟩
                have HD4 := Lib.hid hW4
                rw [← hg] at K0 K1
                have HG := Lib.hid hg
                clear k0 k1 hb4 hW4 hg
                go_wp2_with fail
                try rw [← HD4.out]
                try rw [← HG.out]
                clear HD4 HG
                go_loopw [76] (fun i wr => ∃ k : Nat, k ≤ 2 ∧ i = .int .i64 k ∧ wr.cell? ⟨g, 0, none⟩ = some (.string p) ∧ wr.cell? ⟨g, 1, none⟩ = some (.string q) ∧ EnvZ wr ∧ Below w.heap.size w wr) (fun i _ => 2 - (intOf i).toNat)
                case atStart => exact ⟨0, by omega, rfl, K0.out, K1.out, HE4.out, HW4.out⟩
                case round =>
                  obtain ⟨k, hk, rfl, k0, k1, he, hb⟩ := hrel
                  have L0 := Lib.hid k0
                  have L1 := Lib.hid k1
                  have HB := Lib.hid hb
                  have HEK := Lib.hid he
                  clear k0 k1 hb he
                  by_cases hlt : k < 2
                  · obtain ⟨y, hy, hy0, hy1⟩ : ∃ y : ByteArray, wr.cell? ⟨g, k, none⟩ = some (.string y) ∧ y.size ≤ 1000000000 ∧ 0 < y.size := by
                      rcases Nat.lt_or_ge k 1 with h | h
                      · obtain rfl : k = 0 := by omega
                        exact ⟨p, L0.out, by omega, hp0⟩
                      · obtain rfl : k = 1 := by omega
                        exact ⟨q, L1.out, hq1, hq2⟩
                    have HM := Lib.hid (HMAT.out y wr HEK.out hy0 hy1)
                    go_wp2_with fail
                    refine HM.out.mono ?_
                    rintro e wa ⟨rfl, hba⟩
                    have HV := Lib.hid (HVAL.out y wa (HEK.out.below hba) hy0)
                    have l0 := (hba.cell (p := ⟨g, 0, none⟩) (cell_lt L0.out)).trans L0.out
                    have l1 := (hba.cell (p := ⟨g, 1, none⟩) (cell_lt L1.out)).trans L1.out
                    have M0 := Lib.hid l0
                    have M1 := Lib.hid l1
                    have HBA := Lib.hid (HB.out.trans (hba.mono HB.out.size))
                    have HEA := Lib.hid (HEK.out.below hba)
                    clear hba l0 l1 hy
                    obtain ⟨r, hr⟩ : ∃ r, r = (mres T false y.data.toList).isSome := ⟨_, rfl⟩
                    rw [← hr] at HV ⊢
                    clear hr
                    go_wp2_with fail
                    refine HV.out.mono ?_
                    rintro e wb ⟨v, rfl, hbb⟩
                    have l0 := (hbb.cell (p := ⟨g, 0, none⟩) (cell_lt M0.out)).trans M0.out
                    have l1 := (hbb.cell (p := ⟨g, 1, none⟩) (cell_lt M1.out)).trans M1.out
                    have N0 := Lib.hid l0
                    have N1 := Lib.hid l1
                    have HBB := Lib.hid (HBA.out.trans (hbb.mono HBA.out.size))
                    have HEB := Lib.hid (HEA.out.below hbb)
                    clear hbb l0 l1
                    cases r <;>
                    · go_wp2_with fail
                      go_roundw
                      case rel => exact ⟨k + 1, by omega, by go_num, N0.out, N1.out, HEB.out, HBB.out⟩
                      case measure => simp [intOf]; omega
                  · obtain rfl : k = 2 := by omega
                    go_wp2_with fail
                    go_ret
                    exact ⟨rfl, HB.out⟩
            · rw [decide_eq_false hsh]
              go_wp2_with fail
              go_ret
              exact ⟨rfl, HW2.out⟩
theorem values_law (a0 : Option Addr) (c0 : Nat) (ps : List ByteArray) (a1 : Option Addr) (c1 : Nat) (vs : List ByteArray) (a2 : Option Addr) (c2 : Nat) (ks : List Nat) (p : ByteArray) (w : World) (hE : EnvZ w) (hl0 : ps.length ≤ maxLen) (h0 : TextsAt w a0 ps) (hl1 : vs.length ≤ maxLen) (h1 : TextsAt w a1 vs) (hl2 : ks.length ≤ maxLen) (h2 : KindsAt w a2 ks) (hk : ∀ i, ks.getD i 0 < 256) (hps : p.size ≤ 140737488351232) :
    Calls Tryz.prog 13 #[.slice a0 ps.length c0, .slice a1 vs.length c1, .slice a2 ks.length c2, .string p] w fun e w' => e = .returned (.bool true) ∧ Below w.heap.size w w' := values_walk a0 a1 a2 c0 c1 c2 ps vs ks p w hE hl0 hl1 hl2 h0 h1 h2 hk hps
end Go.Proofs.YtiebedcldbmlhaaGreatDoor
