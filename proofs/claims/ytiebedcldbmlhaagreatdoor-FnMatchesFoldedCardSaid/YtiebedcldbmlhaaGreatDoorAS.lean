/-
  The law FnMatchesFolded returns true and writes nothing that was there. Conditions: the table that Itoa reads; of a size that addresses allow.
-/
import Derived.Test.YtiebedcldbmlhaaGreatDoorAR
namespace Go.Proofs.YtiebedcldbmlhaaGreatDoor
open Go.RowKit
set_option linter.unusedVariables false

set_option maxHeartbeats 2000000 in
set_option maxRecDepth 100000 in
theorem folded_walk (a0 a1 a2 : Option Addr) (c0 c1 c2 : Nat) (ps vs : List ByteArray) (ks : List Nat) (p : ByteArray) (w : World) (hE : EnvZ w) (hl0 : ps.length ≤ maxLen) (hl1 : vs.length ≤ maxLen) (hl2 : ks.length ≤ maxLen) (h0 : TextsAt w a0 ps) (h1 : TextsAt w a1 vs) (h2 : KindsAt w a2 ks) (hk2 : ∀ i, ks.getD i 0 < 256) (hps : p.size ≤ 140737488351232) :
    Calls Tryz.prog 12 #[.slice a0 ps.length c0, .slice a1 vs.length c1, .slice a2 ks.length c2, .string p] w fun e w' => e = .returned (.bool true) ∧ Below w.heap.size w w' := by
  have HF0 := Lib.hid (fits_any a0 c0 ps w hl0 h0)
  have HF1 := Lib.hid (fits_any a1 c1 vs w hl1 h1)
  have HMA := Lib.hid (match_ab_loose w hE)
  have HE := Lib.hid hE
  have H0 := Lib.hid h0
  have H1 := Lib.hid h1
  have H2 := Lib.hid h2
  have HK := Lib.hid hk2
  have HL0 := Lib.hid hl0
  have HL1 := Lib.hid hl1
  unfold maxLen at hl0 hl1 hl2
  clear hE h0 h1 h2 hk2
  go_enter Tryz.func12, Tryz.ntmps12
  go_wp2_with fail
  refine HF0.out.mono ?_
  rintro e w0 ⟨rfl, rfl⟩
  cases hf0 : fitsB ps with
  | false =>
    go_wp2_with fail
    go_ret
    exact ⟨rfl, Below.refl _ _⟩
  | true =>
    have HB0 := Lib.hid (fitsB_yes hf0)
    clear hf0
    go_wp2_with fail
    refine HF1.out.mono ?_
    rintro e w0 ⟨rfl, rfl⟩
    cases hf1 : fitsB vs with
    | false =>
      go_wp2_with fail
      go_ret
      exact ⟨rfl, Below.refl _ _⟩
    | true =>
      have HB1 := Lib.hid (fitsB_yes hf1)
      clear hf1
      by_cases hkb : 2147483647 < ks.length
      · go_wp2_with fail
        go_ret
        exact ⟨rfl, Below.refl _ _⟩
      · have hkl : ks.length ≤ 2147483647 := by omega
        clear hkb
        by_cases hpb : 2147483647 < p.size
        · go_wp2_with fail
          go_ret
          exact ⟨rfl, Below.refl _ _⟩
        · have hpl : p.size ≤ 2147483647 := by omega
          clear hpb
          go_wp2_with fail
          refine HMA.out.mono ?_
          rintro e w1 ⟨rfl, hb1⟩
          have t0 := H0.out.below hb1
          have t1 := H1.out.below hb1
          have t2 := H2.out.below hb1
          have HE1 := Lib.hid (HE.out.below hb1)
          have HW1 := Lib.hid hb1
          have HPL := Lib.hid (plain_any a0 a1 c0 c1 ps vs w1 HL0.out HL1.out t0 t1 (fun s hs => by have := HB0.out.2 s hs; omega) (fun s hs => by have := HB1.out.2 s hs; omega))
          have T0 := Lib.hid t0
          have T1 := Lib.hid t1
          have T2 := Lib.hid t2
          clear hb1 t0 t1 t2
          go_wp2_with fail
          refine HPL.out.mono ?_
          rintro e w1' ⟨rfl, rfl⟩
          cases hplb : plainB ps vs with
          | false =>
            go_wp2_with fail
            go_ret
            exact ⟨rfl, HW1.out⟩
          | true =>
            have HOK := Lib.hid (plainB_yes hplb)
            clear hplb
            go_wp2_with fail
            refine (short_one p w1).mono ?_
            rintro e w2 ⟨rfl, rfl⟩
            obtain ⟨W, hWd⟩ : ∃ W, W = w1.alloc (.cells #[.string p] 9) := ⟨_, rfl⟩
            have hbW : Below w1.heap.size w1 W := by rw [hWd]; exact (Below.refl _ _).alloc (Nat.le_refl _) _
            rw [← hWd]
            have HW2 := Lib.hid (HW1.out.trans (hbW.mono HW1.out.size))
            have HEW := Lib.hid (HE1.out.below hbW)
            have TW0 := Lib.hid (T0.out.below hbW)
            have TW1 := Lib.hid (T1.out.below hbW)
            have TW2 := Lib.hid (T2.out.below hbW)
            clear hWd hbW
            by_cases hsh : p.size ≤ 2000
            · rw [decide_eq_true hsh]
              go_wp2_with fail
              refine (begins_more p ⟨#[47]⟩ W hps (by decide)).mono ?_
              rintro e w2 ⟨⟨x2, hx2, rfl⟩, rfl⟩
              cases x2 with
              | false =>
                go_wp2_with fail
                go_ret
                exact ⟨rfl, HW2.out⟩
              | true =>
                have hp0 : 0 < p.size := by have := hx2 rfl; exact this
                clear hx2
                have HPA := Lib.hid (pattern_any a0 a1 a2 c0 c1 c2 ps vs ks W (by have := HOK.out.few; omega) HOK.out.vfew hkl TW0.out TW1.out TW2.out HOK.out.psz HOK.out.vsz HK.out)
                go_wp2_with fail
                refine HPA.out.mono ?_
                rintro e w3 ⟨v, rfl, hown, hb3⟩
                obtain ⟨B, hcalls⟩ := folded_pts ps vs ks HOK.out
                have HC := Lib.hid hcalls
                obtain ⟨ao, cap, rfl⟩ := own_form hown
                have HW3 := Lib.hid (HW2.out.trans (hb3.mono HW2.out.size))
                have HE3 := Lib.hid (HEW.out.below hb3)
                obtain ⟨s, hs⟩ : ∃ s, s = bs (patOf (ptsTo ps vs ks ps.length)) := ⟨_, rfl⟩
                obtain ⟨q, hq⟩ : ∃ q, q = bs (pathOf (ptsTo ps vs ks ps.length)) := ⟨_, rfl⟩
                have hsd : s.data.toList = patOf (ptsTo ps vs ks ps.length) := by rw [hs, bs_data]
                have hsz : s.size ≤ 100000 := by
                  rw [← size_data, hsd]
                  have h5 := (pat_len (ks := ks) HOK.out.psz HOK.out.vsz ps.length).1
                  have h6 := HOK.out.few
                  omega
                have HSD := Lib.hid hsd
                rw [← hs, ← hq]
                clear hown hb3 hcalls hs hsd hq
                have HM1 := Lib.hid (HC.out s p (.inl HSD.out) w3 HE3.out (by omega) hp0)
                obtain ⟨b, hbd⟩ : ∃ b, b = B (lowL p.data.toList) := ⟨_, rfl⟩
                rw [← hbd] at HM1
                have HBD := Lib.hid hbd
                clear hbd
                go_wp2_with fail
                refine HM1.out.mono ?_
                rintro e w4 ⟨rfl, hb4⟩
                have HW4 := Lib.hid (HW3.out.trans (hb4.mono HW3.out.size))
                have HE4 := Lib.hid (HE3.out.below hb4)
                clear hb4 HM1
                obtain ⟨r, hr⟩ : ∃ r, r = bs (lowL p.data.toList) := ⟨_, rfl⟩
                have hrz : r.size = p.size := by rw [hr, bs_size]; unfold lowL; rw [List.length_map, size_data]
                have hrd : r.data.toList = lowL p.data.toList := by rw [hr, bs_data]
                have hlo := low_any p w4 (by omega)
                rw [← hr] at hlo
                have HLO := Lib.hid hlo
                have HRD := Lib.hid hrd
                have HRZ := Lib.hid hrz
                clear hlo hr hrz hrd
                go_wp2_with fail
                refine HLO.out.mono ?_
                rintro e w5 ⟨rfl, hb5⟩
                have HW5 := Lib.hid (HW4.out.trans (hb5.mono HW4.out.size))
                have HE5 := Lib.hid (HE4.out.below hb5)
                clear hb5 HLO
                have hm2 := HC.out s r (.inl HSD.out) w5 HE5.out (by rw [HRZ.out]; omega) (by rw [HRZ.out]; exact hp0)
                rw [HRD.out, lowL_low, ← HBD.out] at hm2
                have HM2 := Lib.hid hm2
                clear hm2
                go_wp2_with fail
                refine HM2.out.mono ?_
                rintro e w6 ⟨rfl, hb6⟩
                have HW6 := Lib.hid (HW5.out.trans (hb6.mono HW5.out.size))
                have HE6 := Lib.hid (HE5.out.below hb6)
                clear hb6 HM2
                have hm3 := HC.out (s ++ ⟨#[47]⟩) p (.inr (by rw [← HSD.out]; simp)) w6 HE6.out (by omega) hp0
                rw [← HBD.out] at hm3
                have HM3 := Lib.hid hm3
                clear hm3
                go_wp2_with fail
                refine HM3.out.mono ?_
                rintro e w7 ⟨rfl, hb7⟩
                have HW7 := Lib.hid (HW6.out.trans (hb7.mono HW6.out.size))
                clear hb7 HM3
                cases b <;>
                · go_wp2_with fail
                  go_ret
                  exact ⟨rfl, HW7.out⟩
            · rw [decide_eq_false hsh]
              go_wp2_with fail
              go_ret
              exact ⟨rfl, HW2.out⟩
theorem folded_law (a0 : Option Addr) (c0 : Nat) (ps : List ByteArray) (a1 : Option Addr) (c1 : Nat) (vs : List ByteArray) (a2 : Option Addr) (c2 : Nat) (ks : List Nat) (p : ByteArray) (w : World) (hE : EnvZ w) (hl0 : ps.length ≤ maxLen) (h0 : TextsAt w a0 ps) (hl1 : vs.length ≤ maxLen) (h1 : TextsAt w a1 vs) (hl2 : ks.length ≤ maxLen) (h2 : KindsAt w a2 ks) (hk : ∀ i, ks.getD i 0 < 256) (hps : p.size ≤ 140737488351232) :
    Calls Tryz.prog 12 #[.slice a0 ps.length c0, .slice a1 vs.length c1, .slice a2 ks.length c2, .string p] w fun e w' => e = .returned (.bool true) ∧ Below w.heap.size w w' := folded_walk a0 a1 a2 c0 c1 c2 ps vs ks p w hE hl0 hl1 hl2 h0 h1 h2 hk hps
end Go.Proofs.YtiebedcldbmlhaaGreatDoor
