/-
  The law FnPatternNames returns true and writes nothing that was there. Conditions: the table that Itoa reads; of a size that addresses allow.
-/
import Derived.Test.YtiebedcldbmlhaaGreatDoorAU
namespace Go.Proofs.YtiebedcldbmlhaaGreatDoor
open Go.RowKit
set_option linter.unusedVariables false

theorem wnames_snoc (x : Bs × Option Bs) : ∀ l : Pts, wnames (l ++ [x]) = wnames l ++ wnames [x]
  | [] => rfl
  | (p, none) :: l => by show wnames (l ++ [x]) = _; rw [wnames_snoc x l]; rfl
  | (p, some v) :: l => by show p :: wnames (l ++ [x]) = _; rw [wnames_snoc x l]; rfl
theorem wnames_no (ps vs : List ByteArray) (ks : List Nat) (k : Nat) (h : isVal vs ks k = false) : wnames (ptsTo ps vs ks (k + 1)) = wnames (ptsTo ps vs ks k) := by
  have hi : itemAt ps vs ks k = ((ps.getD k ByteArray.empty).data.toList, none) := by unfold itemAt; rw [h]; rfl
  rw [ptsTo_step, wnames_snoc, hi]
  simp [wnames]
theorem wnames_yes (ps vs : List ByteArray) (ks : List Nat) (k : Nat) (h : isVal vs ks k = true) : wnames (ptsTo ps vs ks (k + 1)) = wnames (ptsTo ps vs ks k) ++ [(ps.getD k ByteArray.empty).data.toList] := by
  have hi : itemAt ps vs ks k = ((ps.getD k ByteArray.empty).data.toList, some (vs.getD k ByteArray.empty).data.toList) := by unfold itemAt; rw [h]; rfl
  rw [ptsTo_step, wnames_snoc, hi]
  simp [wnames]
theorem wnames_len (ps vs : List ByteArray) (ks : List Nat) : ∀ k, (wnames (ptsTo ps vs ks k)).length ≤ k
  | 0 => by simp [ptsTo, wnames]
  | k + 1 => by
    have ih := wnames_len ps vs ks k
    cases h : isVal vs ks k with
    | false => rw [wnames_no ps vs ks k h]; omega
    | true => rw [wnames_yes ps vs ks k h, List.length_append]; simp; omega
/-- How many of the first parts are parameters. -/
def parCount (M : List Seg) (k : Nat) : Nat := ((M.take k).filter (·.isParam)).length
theorem parCount_step {M : List Seg} {k : Nat} {x : Seg} (h : M[k]? = some x) : parCount M (k + 1) = parCount M k + (if x.isParam then 1 else 0) := by
  obtain ⟨hk, rfl⟩ := List.getElem?_eq_some_iff.1 h
  unfold parCount
  rw [List.take_succ_eq_append_getElem hk, List.filter_append, List.length_append, List.filter_cons]
  cases M[k].isParam <;> simp
theorem parCount_le (M : List Seg) (k : Nat) : parCount M k ≤ k := by
  unfold parCount
  exact Nat.le_trans (List.length_filter_le _ _) (by rw [List.length_take]; omega)
theorem parCount_all (M : List Seg) : parCount M M.length = (M.filter (·.isParam)).length := by unfold parCount; rw [List.take_length]

/-- Segments and Values, of a pattern of plain parts. -/
theorem names_pts (ps vs : List ByteArray) (ks : List Nat) (hp : PlainOk ps vs) : ∃ T : List Seg, 0 < T.length ∧ T.length ≤ 1000000 ∧ (T.filter (·.isParam)).length = (wnames (ptsTo ps vs ks ps.length)).length ∧
    (∀ (w : World), EnvZ w → Calls Tryz.prog 27 #[.string (bs (patOf (ptsTo ps vs ks ps.length)))] w fun e w' => ∃ v pv, e = .returned (.tuple #[v, pv, .bool true]) ∧ w'.ownsRow w.heap.size 49 11 v T.length (zrow T) ∧ w'.ownsRow w.heap.size 9 1 pv (wnames (ptsTo ps vs ks ps.length)).length (svals (wnames (ptsTo ps vs ks ps.length))) ∧ Below w.heap.size w w') ∧
    (∀ (q : ByteArray) (w : World), EnvZ w → q.size ≤ 1000000000 → Calls Tryz.prog 18 #[.string (bs (patOf (ptsTo ps vs ks ps.length))), .string q, .bool false] w fun e w' => ∃ ao n cap is, e = .returned (.tuple #[.slice ao n cap, .bool is, .bool true]) ∧ (is = true → n = (wnames (ptsTo ps vs ks ps.length)).length) ∧ Below w.heap.size w w') := by
  have hok := pts_ok (ks := ks) hp
  have hne : ptsTo ps vs ks ps.length ≠ [] := fun e => by
    have := congrArg List.length e
    rw [pts_len] at this
    have h5 := hp.some
    simp only [List.length_nil] at this
    omega
  have hl := pat_len (ks := ks) hp.psz hp.vsz ps.length
  have hlen := hp.few
  obtain ⟨T, hT, hS⟩ := parse_pts (ptsTo ps vs ks ps.length) hok (by rw [pts_len]; omega)
  have hpos : 0 < (patOf (ptsTo ps vs ks ps.length)).length := pat_pos (by rw [pts_len]; exact hp.some)
  have h60 : ∀ y ∈ (bs (patOf (ptsTo ps vs ks ps.length))).data.toList, y ≠ 60 := by rw [bs_data]; exact fun x hx => (pat_bytes _ hok x hx).1
  have hTb : parse (bs (patOf (ptsTo ps vs ks ps.length))).data.toList = some (T, wnames (ptsTo ps vs ks ps.length)) := by rw [bs_data]; exact hT
  have hcnt : (T.filter (·.isParam)).length = (wnames (ptsTo ps vs ks ps.length)).length := by
    have h1 := sh_params _ _ T hS
    rw [norm_names] at h1
    rw [← h1, List.length_map]
  have hgood := parse_good hTb h60 (by rw [bs_data]; omega)
  refine ⟨T, ?_, hgood.2.2.2, hcnt, fun w hE => segments_any _ w hE (by rw [bs_size]; omega) (by rw [bs_size]; exact hpos) h60 T _ hTb, fun q w hE hq => ?_⟩
  · rw [List.length_pos_iff]
    rintro rfl
    have h1 := norm_render (ptsTo ps vs ks ps.length) []
    cases hn : normOf [] (ptsTo ps vs ks ps.length) with
    | mk a fin =>
      rw [hn] at hS h1
      simp only at hS h1
      cases a with
      | nil =>
        rcases hS with ⟨rfl, _⟩ | ⟨_, h2⟩
        · have h3 : patOf (ptsTo ps vs ks ps.length) = [] := by simpa [render] using h1.symm
          rw [h3] at hpos
          simp at hpos
        · cases h2
      | cons y a =>
        obtain ⟨c, n, v⟩ := y
        obtain ⟨_, _, _, h2, _⟩ := hS
        cases h2
  · have h1 := values_any (bs (patOf (ptsTo ps vs ks ps.length))) q false w hE (by rw [bs_size]; omega) (by rw [bs_size]; exact hpos) hq h60 T _ hTb
    refine h1.mono ?_
    rintro e w' ⟨v, is, rfl, hb, hm⟩
    cases hr : mres T false q.data.toList with
    | none =>
      rw [hr] at hm
      obtain ⟨rfl, rfl⟩ := hm
      exact ⟨none, 0, 0, false, rfl, (fun h => by cases h), hb⟩
    | some us =>
      rw [hr] at hm
      obtain ⟨rfl, ho⟩ := hm
      obtain ⟨ao, cap, rfl⟩ := own_form ho
      refine ⟨ao, us.length, cap, true, rfl, fun _ => ?_, hb⟩
      have h2 := match_count hr
      rw [h2, ← hcnt]
      simp

set_option maxHeartbeats 4000000 in
set_option maxRecDepth 100000 in
theorem names_walk (a0 a1 a2 : Option Addr) (c0 c1 c2 : Nat) (ps vs : List ByteArray) (ks : List Nat) (p : ByteArray) (w : World) (hE : EnvZ w) (hl0 : ps.length ≤ maxLen) (hl1 : vs.length ≤ maxLen) (hl2 : ks.length ≤ maxLen) (h0 : TextsAt w a0 ps) (h1 : TextsAt w a1 vs) (h2 : KindsAt w a2 ks) (hk2 : ∀ i, ks.getD i 0 < 256) (hps : p.size ≤ 140737488351232) :
    Calls Tryz.prog 10 #[.slice a0 ps.length c0, .slice a1 vs.length c1, .slice a2 ks.length c2, .string p] w fun e w' => e = .returned (.bool true) ∧ Below w.heap.size w w' := by
  obtain ⟨i9, hi9, hz90, hz91, hz92⟩ := info_parts info9
  have HF0 := Lib.hid (fits_any a0 c0 ps w hl0 h0)
  have HF1 := Lib.hid (fits_any a1 c1 vs w hl1 h1)
  have HMA := Lib.hid (matches_any w hE)
  have HE := Lib.hid hE
  have H0 := Lib.hid h0
  have H1 := Lib.hid h1
  have H2 := Lib.hid h2
  have HK := Lib.hid hk2
  have HL0 := Lib.hid hl0
  have HL1 := Lib.hid hl1
  unfold maxLen at hl0 hl1 hl2
  clear hE h0 h1 h2 hk2
  go_enter Tryz.func10, Tryz.ntmps10
  go_wp2_with fail
  refine HF0.out.mono ?_
  rintro e w0 ⟨rfl, rfl⟩
  cases hf0 : fitsB ps with
  | false =>
    go_wp2_with fail
    go_ret
    exact ⟨rfl, Below.refl _ _⟩
  | true =>
    have HB0 := Lib.hid (fitsB_yes hf0)
    clear hf0
    go_wp2_with fail
    refine HF1.out.mono ?_
    rintro e w0 ⟨rfl, rfl⟩
    cases hf1 : fitsB vs with
    | false =>
      go_wp2_with fail
      go_ret
      exact ⟨rfl, Below.refl _ _⟩
    | true =>
      have HB1 := Lib.hid (fitsB_yes hf1)
      clear hf1
      by_cases hkb : 2147483647 < ks.length
      · go_wp2_with fail
        go_ret
        exact ⟨rfl, Below.refl _ _⟩
      · have hkl : ks.length ≤ 2147483647 := by omega
        clear hkb
        by_cases hpb : 2147483647 < p.size
        · go_wp2_with fail
          go_ret
          exact ⟨rfl, Below.refl _ _⟩
        · have hpl : p.size ≤ 2147483647 := by omega
          clear hpb
          go_wp2_with fail
          refine HMA.out.mono ?_
          rintro e w1 ⟨rfl, hb1⟩
          have t0 := H0.out.below hb1
          have t1 := H1.out.below hb1
          have t2 := H2.out.below hb1
          have HE1 := Lib.hid (HE.out.below hb1)
          have HW1 := Lib.hid hb1
          have HPL := Lib.hid (plain_any a0 a1 c0 c1 ps vs w1 HL0.out HL1.out t0 t1 (fun s hs => by have := HB0.out.2 s hs; omega) (fun s hs => by have := HB1.out.2 s hs; omega))
          have T0 := Lib.hid t0
          have T1 := Lib.hid t1
          have T2 := Lib.hid t2
          clear hb1 t0 t1 t2
          go_wp2_with fail
          refine HPL.out.mono ?_
          rintro e w1' ⟨rfl, rfl⟩
          cases hplb : plainB ps vs with
          | false =>
            go_wp2_with fail
            go_ret
            exact ⟨rfl, HW1.out⟩
          | true =>
            have HOK := Lib.hid (plainB_yes hplb)
            clear hplb
            go_wp2_with fail
            refine (short_one p w1).mono ?_
            rintro e w2 ⟨rfl, rfl⟩
            obtain ⟨W, hWd⟩ : ∃ W, W = w1.alloc (.cells #[.string p] 9) := ⟨_, rfl⟩
            have hbW : Below w1.heap.size w1 W := by rw [hWd]; exact (Below.refl _ _).alloc (Nat.le_refl _) _
            rw [← hWd]
            have HW2 := Lib.hid (HW1.out.trans (hbW.mono HW1.out.size))
            have HEW := Lib.hid (HE1.out.below hbW)
            have TW0 := Lib.hid (T0.out.below hbW)
            have TW1 := Lib.hid (T1.out.below hbW)
            have TW2 := Lib.hid (T2.out.below hbW)
            clear hWd hbW
            by_cases hsh : p.size ≤ 2000
            · rw [decide_eq_true hsh]
              have HPA := Lib.hid (pattern_any a0 a1 a2 c0 c1 c2 ps vs ks W (by have := HOK.out.few; omega) HOK.out.vfew hkl TW0.out TW1.out TW2.out HOK.out.psz HOK.out.vsz HK.out)
              go_wp2_with fail
              refine HPA.out.mono ?_
              rintro e w3 ⟨v, rfl, hown, hb3⟩
              obtain ⟨ao, cap, rfl⟩ := own_form hown
              have HW3 := Lib.hid (HW2.out.trans (hb3.mono HW2.out.size))
              have HE3 := Lib.hid (HEW.out.below hb3)
              have TX0 := Lib.hid (TW0.out.below hb3)
              have TX2 := Lib.hid (TW2.out.below hb3)
              obtain ⟨T, hT0, hTl, hcnt, hseg, hval⟩ := names_pts ps vs ks HOK.out
              obtain ⟨s, hs⟩ : ∃ s, s = bs (patOf (ptsTo ps vs ks ps.length)) := ⟨_, rfl⟩
              obtain ⟨q, hq⟩ : ∃ q, q = bs (pathOf (ptsTo ps vs ks ps.length)) := ⟨_, rfl⟩
              rw [← hs] at hseg hval ⊢
              rw [← hq]
              have HSEG := Lib.hid hseg
              have HVAL := Lib.hid hval
              have HCNT := Lib.hid hcnt
              clear hown hb3 hseg hval hcnt hs hq HPA HMA HF0 HF1 HPL
              obtain ⟨n, hn⟩ : ∃ n, n = ps.length := ⟨_, rfl⟩
              obtain ⟨m, hm⟩ : ∃ m, m = vs.length := ⟨_, rfl⟩
              obtain ⟨kq, hkq⟩ : ∃ kq, kq = ks.length := ⟨_, rfl⟩
              have hn12 : n ≤ 12 := by rw [hn]; exact HOK.out.few
              rw [← hm] at hl1
              rw [← hkq] at hkl hl2
              rw [← hn] at HSEG HVAL HCNT hl0 ⊢
              rw [← hm, ← hkq]
              have HN := Lib.hid hn
              have HM := Lib.hid hm
              have HQ := Lib.hid hkq
              clear hn hm hkq
              go_wp2_with fail
              go_loopw [12, 64] (fun c i wr => ∃ k : Nat, k ≤ n ∧ i = .int .i64 k ∧ wr.ownsRow w3.heap.size 9 1 c (wnames (ptsTo ps vs ks k)).length (svals (wnames (ptsTo ps vs ks k))) ∧ Below w3.heap.size w3 wr) (fun _ i _ => n - (intOf i).toNat)
              case atStart => exact ⟨0, Nat.zero_le _, rfl, World.ownsRow_nil _ _ _ _, Below.refl _ _⟩
              case round =>
                obtain ⟨k, hk, rfl, hown, hb⟩ := hrel
                have HO := Lib.hid hown
                have HB := Lib.hid hb
                clear hown hb
                by_cases hlt : k < n
                · rcases TX0.out with h0 | ⟨b, off, rfl, hcells⟩
                  · have h1 := HN.out
                    rw [h0] at h1; simp at h1; omega
                  have hck := hcells k (by have := HN.out; omega)
                  have hck2 := (HB.out.cell (p := ⟨b, off + k, none⟩) (cell_lt hck)).trans hck
                  obtain ⟨u, hu⟩ : ∃ u, u = ps.getD k ByteArray.empty := ⟨_, rfl⟩
                  rw [← hu] at hck2
                  have HU := Lib.hid hu
                  have HWL := Lib.hid (wnames_len ps vs ks k)
                  obtain ⟨Cb, hCb⟩ : ∃ Cb, Cb = isVal vs ks k := ⟨_, rfl⟩
                  have HCB := Lib.hid hCb
                  clear hck hcells hu hCb
                  go_upto_region 12 with fail
                  go_cut [86] from 69 to 86 (fun v wx => v = .bool Cb ∧ wr = wx)
                  case first =>
                    by_cases hA : k < kq
                    · have dA : decide (k < kq) = true := decide_eq_true hA
                      by_cases hB : k < m
                      · have dB : decide (k < m) = true := decide_eq_true hB
                        rcases TX2.out with h0 | ⟨b2, off2, rfl, hcells⟩
                        · have h1 := HQ.out
                          rw [h0] at h1; simp at h1; omega
                        have hck := hcells k (by have := HQ.out; omega)
                        have hck3 := (HB.out.cell (p := ⟨b2, off2 + k, none⟩) (cell_lt hck)).trans hck
                        obtain ⟨x, hx⟩ : ∃ x, x = ks.getD k 0 := ⟨_, rfl⟩
                        have hxl := HK.out k
                        rw [← hx] at hck3 hxl
                        have HX := Lib.hid hx
                        clear hck hcells hx
                        have HV := Lib.hid (show isVal vs ks k = decide (x % 2 ≠ 0) by
                          unfold isVal; rw [← HX.out, decide_eq_true (by have := HQ.out; omega), decide_eq_true (by have := HM.out; omega)]; rfl)
                        by_cases hC : x % 2 = 0
                        · have hq1 : ((x : Int) % 2 == 1) = false := by rw [beq_eq_false_iff_ne]; omega
                          go_wp2
                          go_meet
                          case rel => exact ⟨by rw [HCB.out, HV.out, decide_eq_false (by omega)], rfl⟩
                        · have hq1 : ((x : Int) % 2 == 1) = true := by rw [beq_iff_eq]; omega
                          go_wp2
                          go_meet
                          case rel => exact ⟨by rw [HCB.out, HV.out, decide_eq_true (by omega)], rfl⟩
                      · have dB : decide (k < m) = false := decide_eq_false hB
                        have HV := Lib.hid (show isVal vs ks k = false by unfold isVal; rw [decide_eq_false (p := k < vs.length) (by have := HM.out; omega)]; simp)
                        go_wp2
                        go_meet
                        case rel => exact ⟨by rw [HCB.out, HV.out], rfl⟩
                    · have dA : decide (k < kq) = false := decide_eq_false hA
                      have HV := Lib.hid (show isVal vs ks k = false by unfold isVal; rw [decide_eq_false (p := k < ks.length) (by have := HQ.out; omega)]; simp)
                      go_wp2
                      go_meet
                      case rel => exact ⟨by rw [HCB.out, HV.out], rfl⟩
                  case rest =>
                  obtain ⟨rfl, rfl⟩ := hcut
                  cases hcb : Cb with
                  | false =>
                    have HPC := Lib.hid (wnames_no ps vs ks k (HCB.out.symm.trans hcb))
                    clear hcb
                    go_wp2_with fail
                    go_roundw
                    case rel => exact ⟨k + 1, by omega, by go_num, by rw [HPC.out]; exact HO.out, HB.out⟩
                    case measure => simp [intOf]; omega
                  | true =>
                    have HPC := Lib.hid (wnames_yes ps vs ks k (HCB.out.symm.trans hcb))
                    have hbz := HB.out.size
                    have hwl := HWL.out
                    clear hcb
                    go_wp2_with (at_builtin; refine wpList_append_own _ rfl (.tmp 87) (.tmp 89) 22 rfl w3.heap.size 9 i9 (.string ⟨#[]⟩) 1 16 Tryz.underlying22 hi9 hz90 hz91 hz92 rfl (by decide) _ _ _ (by rfl) (HO.out.alloc _) ⟨wr.heap.size, 0, none⟩ 1 1 [.string u] (by rfl) rfl (by intro j y hy; obtain ⟨rfl, rfl⟩ := one_at hy; rw [add_cell, Nat.zero_add]; simp [cell_alloc, objCell]) (str_one u) (by simp [maxLen]; omega) (by omega) (by simp; omega) ?_; intro v' w2 hown' hgrow hnil')
                    have hlt' := fun k' h => (HO.out.lt (k := k') h).1
                    have hbw := (HB.out.alloc (by omega) (.cells #[.string u] 9)).grown hgrow (by simp; omega) hlt'
                    have h6 : svals [(ps.getD k ByteArray.empty).data.toList] = [.string u] := by rw [← HU.out]; simp [svals, bs_of]
                    refine ⟨⟨k + 1, by omega, by go_num, ?_, hbw⟩, by simp [intOf]; omega⟩
                    rw [HPC.out, svals_append, List.length_append, h6]
                    exact hown'
                · obtain rfl : k = n := by omega
                  obtain ⟨L, hL⟩ : ∃ L, L = wnames (ptsTo ps vs ks k) := ⟨_, rfl⟩
                  have hLl : L.length ≤ 12 := by rw [hL]; have := wnames_len ps vs ks k; omega
                  rw [← hL] at HO HSEG HVAL HCNT
                  clear hL
                  obtain ⟨wa, wcap, hwe, _⟩ := own_texts HO.out
                  subst hwe
                  have HEr := Lib.hid (HE3.out.below HB.out)
                  have HWr := Lib.hid (HW3.out.trans (HB.out.mono HW3.out.size))
                  have HSE := Lib.hid (HSEG.out wr HEr.out)
                  go_wp2_with fail
                  refine HSE.out.mono ?_
                  rintro e w4 ⟨sv, pv, rfl, hsv, hpv, hb4⟩
                  obtain ⟨gs, gcap, rfl, hgb, hgl, hcs⟩ := own_cell11 hsv hT0
                  obtain ⟨pa, pcap, rfl⟩ := own_form hpv
                  have HE4 := Lib.hid (HEr.out.below hb4)
                  have HW4 := Lib.hid (HWr.out.trans (hb4.mono HWr.out.size))
                  have HO4 := Lib.hid (own_below HO.out hb4)
                  have HP4 := Lib.hid hpv
                  have HCS := Lib.hid hcs
                  clear hsv hpv hb4 hcs HEr HWr HO HSEG HB
                  have HV4 := Lib.hid (HVAL.out p w4 HE4.out (by omega))
                  go_wp2_with fail
                  refine HV4.out.mono ?_
                  rintro e w5 ⟨va, vn, vcap, is, rfl, hvn, hb5⟩
                  have HW5 := Lib.hid (HW4.out.trans (hb5.mono HW4.out.size))
                  have HO5 := Lib.hid (own_below HO4.out hb5)
                  have HP5 := Lib.hid (own_below HP4.out hb5)
                  have HB5 := Lib.hid hb5
                  have HVN := Lib.hid hvn
                  obtain ⟨tl, htl⟩ : ∃ tl, tl = T.length := ⟨_, rfl⟩
                  have HTL := Lib.hid htl
                  rw [← htl] at hTl ⊢
                  clear hb5 hvn HV4 HVAL HO4 HP4 htl
                  go_wp2_with fail
                  go_loopw [21, 107] (fun c i wr2 => ∃ j : Nat, j ≤ tl ∧ i = .int .i64 j ∧ c = .int .i64 (parCount T j : Nat) ∧ Below w5.heap.size w5 wr2) (fun _ i _ => tl - (intOf i).toNat)
                  case atStart => exact ⟨0, Nat.zero_le _, rfl, rfl, Below.refl _ _⟩
                  case round =>
                    obtain ⟨j, hj, rfl, rfl, hb6⟩ := hrel
                    have HB6 := Lib.hid hb6
                    by_cases hjt : j < tl
                    · obtain ⟨x, hx⟩ : ∃ x, T[j]? = some x := ⟨T[j]'(by have := HTL.out; omega), List.getElem?_eq_getElem _⟩
                      have hcx : ∀ i u, (zcells x)[i]? = some u → wr.cell? ⟨gs, j * 11 + i, none⟩ = some u := fun i u hu => by
                        have h1 := HCS.out j x hx i u hu
                        have h2 := (HB5.out.cell (p := ⟨gs, j * 11 + i, none⟩) (cell_lt h1)).trans h1
                        exact (hb6.cell (p := ⟨gs, j * 11 + i, none⟩) (cell_lt h2)).trans h2
                      have hstep := parCount_step hx
                      have hle := parCount_le T j
                      obtain ⟨pc, hpc⟩ : ∃ pc, pc = parCount T j := ⟨_, rfl⟩
                      rw [← hpc] at hle hstep ⊢
                      obtain ⟨v0, e0⟩ : ∃ v, v = bs x.const := ⟨_, rfl⟩
                      obtain ⟨v1, e1⟩ : ∃ v, v = bs x.name := ⟨_, rfl⟩
                      obtain ⟨v2, e2⟩ : ∃ v, v = bs x.cmp := ⟨_, rfl⟩
                      obtain ⟨b3, e3⟩ : ∃ v, v = x.isParam := ⟨_, rfl⟩
                      obtain ⟨b4, e4⟩ : ∃ v, v = x.greedy := ⟨_, rfl⟩
                      obtain ⟨b5, e5⟩ : ∃ v, v = x.optional := ⟨_, rfl⟩
                      obtain ⟨b6, e6⟩ : ∃ v, v = x.optSlash := ⟨_, rfl⟩
                      obtain ⟨b7, e7⟩ : ∃ v, v = x.last := ⟨_, rfl⟩
                      obtain ⟨p8, e8⟩ : ∃ v, v = x.partCount := ⟨_, rfl⟩
                      obtain ⟨p9, e9⟩ : ∃ v, v = x.length := ⟨_, rfl⟩
                      have hz : zcells x = [Value.string v0, Value.string v1, Value.string v2, Value.bool b3, Value.bool b4, Value.bool b5, Value.bool b6, Value.bool b7, Value.int IntKind.i64 p8, Value.int IntKind.i64 p9, Value.slice none 0 0] := by rw [e0, e1, e2, e3, e4, e5, e6, e7, e8, e9]; rfl
                      rw [hz] at hcx
                      rw [← e3] at hstep
                      have d0 : wr.cell? ⟨gs, j * 11, none⟩ = _ := hcx 0 _ rfl
                      have d1 := hcx 1 _ rfl
                      have d2 := hcx 2 _ rfl
                      have d3 := hcx 3 _ rfl
                      have d4 := hcx 4 _ rfl
                      have d5 := hcx 5 _ rfl
                      have d6 := hcx 6 _ rfl
                      have d7 := hcx 7 _ rfl
                      have d8 := hcx 8 _ rfl
                      have d9 := hcx 9 _ rfl
                      have d10 := hcx 10 _ rfl
                      have HST := Lib.hid hstep
                      clear e0 e1 e2 e3 e4 e5 e6 e7 e8 e9 hz hx hcx hb6 hstep hpc
                      cases b3 <;>
                      · go_wp2_with fail
                        go_roundw
                        case rel => exact ⟨j + 1, by omega, by go_num, by rw [HST.out]; go_num, HB6.out.alloc (by have := HB6.out.size; omega) _⟩
                        case measure => simp [intOf]; omega
                    · obtain rfl : j = tl := by omega
                      have hcl : parCount T j = L.length := by rw [HTL.out, parCount_all]; exact HCNT.out
                      rw [hcl]
                      have ho6 := own_below HO5.out hb6
                      have hp6 := own_below HP5.out hb6
                      obtain ⟨_, _, he1, ht1⟩ := own_texts ho6
                      obtain ⟨_, _, he2, ht2⟩ := own_texts hp6
                      cases he1
                      cases he2
                      have HSA := Lib.hid (same_self pa wa pcap wcap L wr (by omega) ht2 ht1)
                      have HW6 := Lib.hid (HW5.out.trans (hb6.mono HW5.out.size))
                      clear ho6 hp6 ht1 ht2 hb6 hcl
                      go_wp2_with fail
                      refine HSA.out.mono ?_
                      rintro e w7 ⟨rfl, hb7⟩
                      have HW7 := Lib.hid (HW6.out.trans (hb7.mono HW6.out.size))
                      clear hb7
                      cases is with
                      | false =>
                        go_wp2_with fail
                        go_ret
                        exact ⟨rfl, HW7.out⟩
                      | true =>
                        obtain rfl : vn = L.length := HVN.out rfl
                        go_wp2_with fail
                        go_ret
                        exact ⟨rfl, HW7.out⟩
            · rw [decide_eq_false hsh]
              go_wp2_with fail
              go_ret
              exact ⟨rfl, HW2.out⟩
theorem names_law (a0 : Option Addr) (c0 : Nat) (ps : List ByteArray) (a1 : Option Addr) (c1 : Nat) (vs : List ByteArray) (a2 : Option Addr) (c2 : Nat) (ks : List Nat) (p : ByteArray) (w : World) (hE : EnvZ w) (hl0 : ps.length ≤ maxLen) (h0 : TextsAt w a0 ps) (hl1 : vs.length ≤ maxLen) (h1 : TextsAt w a1 vs) (hl2 : ks.length ≤ maxLen) (h2 : KindsAt w a2 ks) (hk : ∀ i, ks.getD i 0 < 256) (hps : p.size ≤ 140737488351232) :
    Calls Tryz.prog 10 #[.slice a0 ps.length c0, .slice a1 vs.length c1, .slice a2 ks.length c2, .string p] w fun e w' => e = .returned (.bool true) ∧ Below w.heap.size w w' := names_walk a0 a1 a2 c0 c1 c2 ps vs ks p w hE hl0 hl1 hl2 h0 h1 h2 hk hps
end Go.Proofs.YtiebedcldbmlhaaGreatDoor
