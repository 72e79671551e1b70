/-
  The law FnPatternMade returns true and writes nothing that was there. Conditions: the table that Itoa reads; of a size that addresses allow.
-/
import Derived.Test.YtiebedcldbmlhaaGreatDoorAF
namespace Go.Proofs.YtiebedcldbmlhaaGreatDoor
open Go.RowKit
set_option linter.unusedVariables false

/-- Where a list of texts lies that the call has made. -/
def OwnTexts (w : World) (ao : Option Addr) (L : List Bs) : Prop := L = [] ∨ ∃ g, ao = some ⟨g, 0, none⟩ ∧ ∀ (i : Nat) (u : Bs), L[i]? = some u → w.cell? ⟨g, i, none⟩ = some (.string (bs u))
theorem own_texts {w : World} {base : Nat} {v : Value} {L : List Bs} (h : w.ownsRow base 9 1 v L.length (svals L)) : ∃ ao cap, v = .slice ao L.length cap ∧ OwnTexts w ao L := by
  by_cases h0 : L = []
  · obtain ⟨ao, cap, hv⟩ := own_form h
    exact ⟨ao, cap, hv, .inl h0⟩
  · obtain ⟨g, cap, hv, _, _, hc⟩ := own_some h (List.length_pos_iff.2 h0)
    refine ⟨some ⟨g, 0, none⟩, cap, hv, .inr ⟨g, rfl, fun i u hu => hc i _ ?_⟩⟩
    unfold svals
    rw [List.getElem?_map, hu]
    rfl

set_option maxHeartbeats 1000000 in
theorem same_self (a0 a1 : Option Addr) (c0 c1 : Nat) (L : List Bs) (w : World) (hl : L.length ≤ 1000000) (h0 : OwnTexts w a0 L) (h1 : OwnTexts w a1 L) :
    Calls Tryz.prog 19 #[.slice a0 L.length c0, .slice a1 L.length c1] w fun e w' => e = .returned (.bool true) ∧ Below w.heap.size w w' := by
  obtain ⟨n, hn⟩ : ∃ n, n = L.length := ⟨_, rfl⟩
  rw [← hn] at hl ⊢
  have HN := Lib.hid hn
  have H0 := Lib.hid h0
  have H1 := Lib.hid h1
  clear hn h0 h1
  go_enter Tryz.func19, Tryz.ntmps19
  go_wp2_with fail
  go_loopw [13] (fun i wr => ∃ k : Nat, k ≤ n ∧ i = .int .i64 k ∧ OwnTexts wr a0 L ∧ OwnTexts wr a1 L ∧ Below w.heap.size w wr) (fun i _ => n - (intOf i).toNat)
  case atStart => exact ⟨0, Nat.zero_le _, rfl, H0.out, H1.out, Below.refl _ _⟩
  case round =>
    obtain ⟨k, hk, rfl, ht0, ht1, hb⟩ := hrel
    have G0 := Lib.hid ht0
    have G1 := Lib.hid ht1
    have HB := Lib.hid hb
    clear ht0 ht1 hb
    by_cases hlt : k < n
    · obtain ⟨u, hu⟩ : ∃ u, L[k]? = some u := ⟨L[k]'(by have := HN.out; omega), List.getElem?_eq_getElem (by have := HN.out; omega)⟩
      rcases G0.out with h0 | ⟨g0, rfl, hc0⟩
      · rw [h0] at hu; simp at hu
      rcases G1.out with h1 | ⟨g1, rfl, hc1⟩
      · rw [h1] at hu; simp at hu
      have d0 : wr.cell? ⟨g0, k, none⟩ = some (.string (bs u)) := hc0 k u hu
      have d1 : wr.cell? ⟨g1, k, none⟩ = some (.string (bs u)) := hc1 k u hu
      clear hc0 hc1 hu
      go_upto_region 6 with fail
      go_quiet (fail)
      go_wp2_with fail
      go_roundw
      case rel => exact ⟨k + 1, by omega, by go_num, G0.out, G1.out, ⟨HB.out.os, HB.out.tape, HB.out.output, HB.out.size, HB.out.block⟩⟩
      case measure => simp [intOf]; omega
    · obtain rfl : k = n := by omega
      go_wp2_with fail
      go_ret
      exact ⟨rfl, HB.out⟩

theorem fitsB_yes {ss : List ByteArray} (h : fitsB ss = true) : ss.length ≤ 2147483647 ∧ ∀ s ∈ ss, s.size ≤ 2147483647 := by
  unfold fitsB at h
  rw [Bool.and_eq_true, decide_eq_true_iff, List.all_eq_true] at h
  exact ⟨h.1, fun s hs => of_decide_eq_true (h.2 s hs)⟩
theorem shortB_all {ss : List ByteArray} (h : shortB ss = true) : (∀ s ∈ ss, s.size ≤ 2000) ∧ ss.length ≤ 60 := by
  unfold shortB at h
  rw [Bool.and_eq_true, decide_eq_true_iff, List.all_eq_true] at h
  exact ⟨fun s hs => of_decide_eq_true (h.1 s hs), h.2⟩
structure PlainOk (ps vs : List ByteArray) : Prop where
  some : 0 < ps.length
  few : ps.length ≤ 12
  vfew : vs.length ≤ 60
  psz : ∀ s ∈ ps, s.size ≤ 2000
  vsz : ∀ s ∈ vs, s.size ≤ 2000
  word : ∀ s ∈ ps, WordOk s.data.toList
  val : ∀ s ∈ vs, s.data.toList ≠ [] ∧ ∀ y ∈ s.data.toList, y ≠ 47
theorem plainB_yes {ps vs : List ByteArray} (h : plainB ps vs = true) : PlainOk ps vs := by
  unfold plainB at h
  simp only [Bool.and_eq_true, decide_eq_true_iff, List.all_eq_true] at h
  obtain ⟨h1, h2, h3, h4, h5, h6⟩ := h
  have a := shortB_all h3
  have b := shortB_all h4
  refine ⟨by omega, h2, b.2, a.1, b.1, fun s hs => wordS_ok (h5 s hs), fun s hs => ?_⟩
  have h7 := h6 s hs
  rw [Bool.not_eq_true', Bool.or_eq_false_iff] at h7
  exact ⟨by intro e; rw [e] at h7; simp at h7, holdsB_no h7.2⟩
theorem getD_mem {ps : List ByteArray} {k : Nat} (hk : k < ps.length) : ps.getD k ByteArray.empty ∈ ps := by
  rw [List.getD_eq_getElem?_getD, List.getElem?_eq_getElem hk]
  exact List.getElem_mem _
theorem pts_ok {ps vs : List ByteArray} {ks : List Nat} (h : PlainOk ps vs) : PtsOk (ptsTo ps vs ks ps.length) := by
  intro x hx
  unfold ptsTo at hx
  obtain ⟨i, hi, rfl⟩ := List.mem_map.1 hx
  have hi' := List.mem_range.1 hi
  refine ⟨h.word _ (getD_mem hi'), fun v hv => ?_⟩
  unfold itemAt at hv
  simp only at hv
  split at hv
  · rename_i hval
    unfold isVal at hval
    rw [Bool.and_eq_true, Bool.and_eq_true, decide_eq_true_iff, decide_eq_true_iff] at hval
    cases hv
    exact h.val _ (getD_mem hval.2.1)
  · cases hv
theorem pts_len {ps vs : List ByteArray} {ks : List Nat} {k : Nat} : (ptsTo ps vs ks k).length = k := by simp [ptsTo]
theorem pat_pos {l : Pts} (h : 0 < l.length) : 0 < (patOf l).length := by
  cases l with
  | nil => simp at h
  | cons x l =>
    obtain ⟨p, o⟩ := x
    cases o <;> simp [patOf]

/-- Values, of a pattern of plain parts. -/
theorem values_pts (ps vs : List ByteArray) (ks : List Nat) (hp : PlainOk ps vs) (p : ByteArray) (w : World) (hE : EnvZ w) (hps : p.size ≤ 1000000000) :
    ∃ T, Sh (normOf [] (ptsTo ps vs ks ps.length)).1 (normOf [] (ptsTo ps vs ks ps.length)).2 T ∧ Calls Tryz.prog 18 #[.string (bs (patOf (ptsTo ps vs ks ps.length))), .string p, .bool false] w fun e w' => ∃ v is, e = .returned (.tuple #[v, .bool is, .bool true]) ∧ Below w.heap.size w w' ∧ Matched w (mres T false p.data.toList) w' v is := by
  have hok := pts_ok (ks := ks) hp
  have hlen := hp.few
  have hl := pat_len (ks := ks) hp.psz hp.vsz ps.length
  obtain ⟨T, hT, hS⟩ := parse_pts (ptsTo ps vs ks ps.length) hok (by rw [pts_len]; omega)
  refine ⟨T, hS, values_any (bs (patOf (ptsTo ps vs ks ps.length))) p false w hE (by rw [bs_size]; omega) (by rw [bs_size]; exact pat_pos (by rw [pts_len]; exact hp.some)) hps (by rw [bs_data]; exact fun x hx => (pat_bytes _ hok x hx).1) T _ (by rw [bs_data]; exact hT)⟩

set_option maxHeartbeats 2000000 in
set_option maxRecDepth 100000 in
theorem made_walk (a0 a1 a2 : Option Addr) (c0 c1 c2 : Nat) (ps vs : List ByteArray) (ks : List Nat) (w : World) (hE : EnvZ w) (hl0 : ps.length ≤ maxLen) (hl1 : vs.length ≤ maxLen) (hl2 : ks.length ≤ maxLen) (h0 : TextsAt w a0 ps) (h1 : TextsAt w a1 vs) (h2 : KindsAt w a2 ks) (hk2 : ∀ i, ks.getD i 0 < 256) :
    Calls Tryz.prog 3 #[.slice a0 ps.length c0, .slice a1 vs.length c1, .slice a2 ks.length c2] w fun e w' => e = .returned (.bool true) ∧ Below w.heap.size w w' := by
  have HF0 := Lib.hid (fits_any a0 c0 ps w hl0 h0)
  have HF1 := Lib.hid (fits_any a1 c1 vs w hl1 h1)
  have HMA := Lib.hid (matches_any w hE)
  have HE := Lib.hid hE
  have H0 := Lib.hid h0
  have H1 := Lib.hid h1
  have H2 := Lib.hid h2
  have HK := Lib.hid hk2
  have HL0 := Lib.hid hl0
  have HL1 := Lib.hid hl1
  unfold maxLen at hl0 hl1 hl2
  clear hE h0 h1 h2 hk2
  go_enter Tryz.func3, Tryz.ntmps3
  go_wp2_with fail
  refine HF0.out.mono ?_
  rintro e w0 ⟨rfl, rfl⟩
  cases hf0 : fitsB ps with
  | false =>
    go_wp2_with fail
    go_ret
    exact ⟨rfl, Below.refl _ _⟩
  | true =>
    have HB0 := Lib.hid (fitsB_yes hf0)
    clear hf0
    go_wp2_with fail
    refine HF1.out.mono ?_
    rintro e w0 ⟨rfl, rfl⟩
    cases hf1 : fitsB vs with
    | false =>
      go_wp2_with fail
      go_ret
      exact ⟨rfl, Below.refl _ _⟩
    | true =>
      have HB1 := Lib.hid (fitsB_yes hf1)
      clear hf1
      by_cases hkb : 2147483647 < ks.length
      · go_wp2_with fail
        go_ret
        exact ⟨rfl, Below.refl _ _⟩
      · have hkl : ks.length ≤ 2147483647 := by omega
        clear hkb
        go_wp2_with fail
        refine HMA.out.mono ?_
        rintro e w1 ⟨rfl, hb1⟩
        have t0 := H0.out.below hb1
        have t1 := H1.out.below hb1
        have t2 := H2.out.below hb1
        have HE1 := Lib.hid (HE.out.below hb1)
        have HW1 := Lib.hid hb1
        have HPL := Lib.hid (plain_any a0 a1 c0 c1 ps vs w1 HL0.out HL1.out t0 t1 (fun s hs => by have := HB0.out.2 s hs; omega) (fun s hs => by have := HB1.out.2 s hs; omega))
        have T0 := Lib.hid t0
        have T1 := Lib.hid t1
        have T2 := Lib.hid t2
        clear hb1 t0 t1 t2
        go_wp2_with fail
        refine HPL.out.mono ?_
        rintro e w1' ⟨rfl, rfl⟩
        cases hpl : plainB ps vs with
        | false =>
          go_wp2_with fail
          go_ret
          exact ⟨rfl, HW1.out⟩
        | true =>
          have hok := plainB_yes hpl
          have HOK := Lib.hid hok
          have HPA := Lib.hid (pattern_any a0 a1 a2 c0 c1 c2 ps vs ks w1 (by have := hok.few; omega) hok.vfew hkl T0.out T1.out T2.out hok.psz hok.vsz HK.out)
          clear hpl hok
          go_wp2_with fail
          refine HPA.out.mono ?_
          rintro e w2 ⟨v, rfl, hown, hb2⟩
          obtain ⟨T, hS, hval⟩ := values_pts ps vs ks HOK.out (bs (pathOf (ptsTo ps vs ks ps.length))) w2 (HE1.out.below hb2) (by rw [bs_size]; have h5 := (pat_len (ks := ks) HOK.out.psz HOK.out.vsz ps.length).2.1; have h6 := HOK.out.few; omega)
          have hres : mres T false (bs (pathOf (ptsTo ps vs ks ps.length))).data.toList = some (wantOf (ptsTo ps vs ks ps.length)) := by rw [bs_data]; exact made_pts chk0 false _ (pts_ok HOK.out) T hS
          rw [hres] at hval
          obtain ⟨L, hL⟩ : ∃ L, L = wantOf (ptsTo ps vs ks ps.length) := ⟨_, rfl⟩
          have hLl : L.length ≤ 1000000 := by rw [hL]; have h5 := (pat_len (ks := ks) HOK.out.psz HOK.out.vsz ps.length).2.2; have h6 := HOK.out.few; omega
          rw [← hL] at hown hval
          have HVAL := Lib.hid hval
          have HOWN := Lib.hid hown
          have HW2 := Lib.hid (HW1.out.trans (hb2.mono HW1.out.size))
          obtain ⟨ao, cap, rfl, _⟩ := own_texts hown
          clear hval hown hb2 hres hL hS
          go_wp2_with fail
          refine HVAL.out.mono ?_
          rintro e w3 ⟨v2, is, rfl, hb3, hm3⟩
          obtain ⟨rfl, hown3⟩ := hm3
          obtain ⟨ao3, cap3, rfl, ht3⟩ := own_texts hown3
          have hown2 := own_below HOWN.out hb3
          obtain ⟨ao2, cap2, he2, ht2⟩ := own_texts hown2
          cases he2
          have HSA := Lib.hid (same_self ao3 ao cap3 cap L w3 hLl ht3 ht2)
          have HW3 := Lib.hid (HW2.out.trans (hb3.mono HW2.out.size))
          clear hown3 hown2 ht3 ht2 hb3
          go_wp2_with fail
          refine HSA.out.mono ?_
          rintro e w4 ⟨rfl, hb4⟩
          have HW4 := Lib.hid (HW3.out.trans (hb4.mono HW3.out.size))
          clear hb4
          go_wp2_with fail
          go_ret
          exact ⟨rfl, HW4.out⟩
end Go.Proofs.YtiebedcldbmlhaaGreatDoor
