/-
  getMatch, of any text and any segments without constraints that lie in memory. Conditions: of a size that addresses allow; at most thirty parameters.
-/
import Derived.Test.YtiebedcldbmlhaaGreatDoorY0
import Derived.Test.YtiebedcldbmlhaaGreatDoorL
import Derived.Deep.CutBlock
import Derived.BigQuiet
namespace Go.Proofs.YtiebedcldbmlhaaGreatDoor
open Go.RowKit
set_option linter.unusedVariables false

/-- The values so far, in the array of thirty texts. -/
structure Arr (A : Nat) (w wr : World) (vs : List Bs) : Prop where
  touch : Touch [A] w wr
  arr : ∃ cur, wr.heap[A]? = some (.cells cur 81 (0, 0)) ∧ cur.size = 30 ∧ ∀ (i : Nat) (v : Bs), vs[i]? = some v → cur[i]? = some (Value.string (bs v))

theorem Arr.below {A : Nat} {w wr w2 : World} {vs : List Bs} (h : Arr A w wr vs) (hb : Below wr.heap.size wr w2) : Arr A w w2 vs := by
  obtain ⟨cur, h1, h2, h3⟩ := h.arr
  exact ⟨h.touch.trans (touch_below hb), cur, (hb.block A (lt_of_obj h1)).trans h1, h2, h3⟩
theorem Arr.drewN {A : Nat} {w wr : World} {vs : List Bs} (h : Arr A w wr vs) (n : Nat) : Arr A w (wr.drewN n) vs := ⟨⟨h.touch.os, h.touch.tape, h.touch.output, h.touch.size, h.touch.block⟩, h.arr⟩
theorem Arr.push {A : Nat} {w wr : World} {vs : List Bs} (h : Arr A w wr vs) (v : Bs) (hl : vs.length < 30) : Arr A w (wr.setCell ⟨A, vs.length, none⟩ (.string (bs v))) (vs ++ [v]) := by
  obtain ⟨cur, h1, h2, h3⟩ := h.arr
  refine ⟨h.touch.trans (touch_set _ (by simp)), cur.setIfInBounds vs.length (.string (bs v)), obj_set _ h1, by simpa using h2, fun i u hu => ?_⟩
  by_cases hi : i < vs.length
  · rw [List.getElem?_append_left hi] at hu
    rw [Array.getElem?_setIfInBounds_ne (by omega)]
    exact h3 i u hu
  · rw [List.getElem?_append_right (by omega)] at hu
    obtain ⟨hl2, hu2⟩ := List.getElem?_eq_some_iff.1 hu
    have hi0 : i - vs.length = 0 := by simp at hl2; omega
    obtain rfl : v = u := by simpa [hi0] using hu2
    obtain rfl : i = vs.length := by omega
    rw [Array.getElem?_setIfInBounds_self_of_lt (by omega)]
theorem Arr.cell {A : Nat} {w wr : World} {vs : List Bs} (h : Arr A w wr vs) {i : Nat} (hi : i < 30) : (∃ v, wr.cell? ⟨A, i, none⟩ = some v) ∧ wr.frozen? ⟨A, i, none⟩ = false := by
  obtain ⟨cur, h1, h2, h3⟩ := h.arr
  exact ⟨⟨cur[i]'(by omega), obj_cell h1 (Array.getElem?_eq_getElem (by omega))⟩, obj_free h1⟩

theorem cell_far {w : World} {a : Addr} {b i : Nat} {v x : Value} (hb : b ≠ a.block) (hc : w.cell? a = some x) : (w.setCell ⟨b, i, none⟩ v).cell? a = some x :=
  (World.cell?_setCell_other w ⟨b, i, none⟩ a v (fun e => hb (congrArg Addr.block e))).trans hc
theorem take_ext0 (s : ByteArray) (k : Nat) : (s.extract 0 k).data.toList = s.data.toList.take k := by rw [extract_range]; simp
theorem str_iff (a b : ByteArray) : (a.toList == b.toList) = true ↔ a.data.toList = b.data.toList := by
  rw [Lib.toList_data, Lib.toList_data, beq_iff_eq]

set_option maxHeartbeats 4000000 in
set_option maxRecDepth 100000 in
theorem match_any (d : ByteArray) (part : Bool) (Q r cap A : Nat) (M : List Seg) (gs : List Nat) (cvs : List Value) (w : World) (hd : d.size ≤ 1000000000) (hl : M.length ≤ 1000000)
    (hQ : w.cell? ⟨Q, 0, none⟩ = some (.slice (some ⟨r, 0, none⟩) M.length cap)) (hrow : ∀ (i : Nat) (g : Nat), gs[i]? = some g → w.cell? ⟨r, i, none⟩ = some (.pointer (some ⟨g, 0, none⟩)))
    (hin : SegsIn w gs M cvs) (hemp : ∀ cv ∈ cvs, ∃ a cap, cv = .slice a 0 cap) (hgood : ∀ x ∈ M, Good x) (hcnt : (M.filter (·.isParam)).length ≤ 30)
    (hA : Arr A w w []) (hAr : A ≠ r) (hAg : A ∉ gs) :
    Calls Tryz.prog 44 #[.pointer (some ⟨Q, 0, none⟩), .string d, .string d, .pointer (some ⟨A, 0, none⟩), .bool part] w fun e w' => e = .returned (.bool (mres M part d.data.toList).isSome) ∧ Touch [A] w w' ∧ ∀ vs, mres M part d.data.toList = some vs → Arr A w w' vs := by
  have HROW := Lib.hid hrow
  have HIN := Lib.hid hin
  have HG := Lib.hid hgood
  have HE := Lib.hid hemp
  have HA := Lib.hid hA
  obtain ⟨n, hn⟩ : ∃ n, n = M.length := ⟨_, rfl⟩
  rw [← hn] at hQ hl
  have HN := Lib.hid hn
  obtain ⟨res, hres⟩ : ∃ res, res = mres M part d.data.toList := ⟨_, rfl⟩
  have HR := Lib.hid hres
  rw [← hres]
  clear hrow hin hgood hemp hA hn hres
  go_enter Tryz.func44, Tryz.ntmps44
  go_wp2_with fail
  go_loopw [1, 2, 12, 24] (fun a b c i wr => ∃ (k : Nat) (t : ByteArray) (vs : List Bs), k ≤ n ∧ a = .string t ∧ b = .string t ∧ c = .int .i64 (vs.length : Nat) ∧ i = .int .i64 k ∧ t.size ≤ d.size ∧ matchGo chk0 part (M.drop k) t.data.toList vs = res ∧ Arr A w wr vs ∧ vs.length + ((M.drop k).filter (·.isParam)).length ≤ 30) (fun _ _ _ i _ => n - (intOf i).toNat)
  case atStart => exact ⟨0, d, [], Nat.zero_le _, rfl, rfl, rfl, rfl, Nat.le_refl _, by rw [HR.out]; rfl, HA.out, by simpa using hcnt⟩
  case round =>
    obtain ⟨k, t, vs, hk, rfl, rfl, rfl, rfl, hts, hm, ha, hc30⟩ := hrel
    have HM := Lib.hid hm
    have HAr := Lib.hid ha
    have H30 := Lib.hid hc30
    clear hm ha hc30
    by_cases hlt : k < n
    · obtain ⟨x, hx⟩ : ∃ x, M[k]? = some x := ⟨M[k]'(by have := HN.out; omega), List.getElem?_eq_getElem (by have := HN.out; omega)⟩
      obtain ⟨g, cv, hg, hcv, ho0⟩ := HIN.out.2.2 k x hx
      obtain ⟨ca, ccap, rfl⟩ := HE.out cv (List.mem_of_getElem? hcv)
      have hgd := HG.out x (List.mem_of_getElem? hx)
      have hgA : g ∉ [A] := by simp; rintro rfl; exact hAg (List.mem_of_getElem? hg)
      have ho : SegObj wr g x (.slice ca 0 ccap) := (HAr.out.touch.block g ho0.lt hgA).trans ho0
      have cr := touch_cell HAr.out.touch (by simpa using fun e => hAr e.symm) (HROW.out k g hg)
      have hds := drop_at hx
      have HX := Lib.hid hx
      have HO := Lib.hid ho
      have HD := Lib.hid hds
      have c1 := ho.cell 1 _ rfl
      have c10 := ho.cell 10 _ rfl
      have HGD := Lib.hid hgd
      have hgA2 : A ≠ g := by rintro rfl; exact hAg (List.mem_of_getElem? hg)
      clear hx hg hcv ho0 ho hds hgd hgA
      cases hp : x.isParam with
      | false =>
        rw [hp] at c1
        have HP := Lib.hid hp
        have hown := HGD.out.own hp
        obtain ⟨ln, hln⟩ : ∃ ln, x.const.length = ln := ⟨_, rfl⟩
        have hl1 : 1 ≤ ln := by have := List.length_pos_iff.2 hown.2; omega
        have hl6 : ln ≤ 1000000 := by have := HGD.out.const; omega
        have HXL := Lib.hid (hown.1.trans (by rw [hln]))
        rw [HXL.out] at c10
        have c8 := HO.out.cell 8 _ rfl
        have c0 := HO.out.cell 0 _ rfl
        obtain ⟨ct, hct⟩ : ∃ ct, ct = bs x.const := ⟨_, rfl⟩
        have hcd := Lib.hid (show x.const = ct.data.toList by rw [hct, bs_data])
        have hcs : ct.size = ln := by rw [hct]; exact hln
        have HCS := Lib.hid hcs
        rw [← hct] at c0
        have e1 : IntKind.i64.wrap ((ln : Int) - 1) = (ln : Int) - 1 := IntWalk.i64_in _ (by omega)
        have e2 : (0 : Int) ≤ (ln : Int) - 1 := by omega
        have e3 : ((ln : Int) - 1).toNat = ln - 1 := by omega
        have e4 : (ln : Int) - 1 ≤ (ct.size : Int) := by omega
        have hTA := Lib.hid (take_ext0 ct (ln - 1))
        have hTB := Lib.hid (take_ext0 t ln)
        have hsd := Lib.hid (size_data t)
        obtain ⟨Ab, hAb⟩ : ∃ Ab, Ab = (x.optSlash && decide (t.size + 1 = ln) && (t.toList == (ct.extract 0 (ln - 1)).toList)) := ⟨_, rfl⟩
        have HAB := Lib.hid hAb
        clear hAb hcs hct hln hown hp
        go_upto_region 8 with fail
        go_cut [59] from 39 to 59 (fun v wx => v = .bool Ab ∧ wr = wx)
        case first =>
          cases hos : x.optSlash with
          | false =>
            rw [hos] at c8
            have HS := Lib.hid hos
            clear hos
            go_wp2
            go_meet
            case rel => exact ⟨by rw [HAB.out, HS.out]; rfl, rfl⟩
          | true =>
            rw [hos] at c8
            have HS := Lib.hid hos
            clear hos
            by_cases hsz : t.size + 1 = ln
            · have hq : ((t.size : Int) == (ln : Int) - 1) = true := by rw [beq_iff_eq]; omega
              have HZ := Lib.hid hsz
              clear hsz
              go_wp2
              go_meet
              case rel => exact ⟨by rw [HAB.out, HS.out, decide_eq_true HZ.out]; simp, rfl⟩
            · have hq : ((t.size : Int) == (ln : Int) - 1) = false := by rw [beq_eq_false_iff_ne]; omega
              go_wp2
              go_meet
              case rel => exact ⟨by rw [HAB.out, HS.out, decide_eq_false hsz]; rfl, rfl⟩
        case rest =>
        obtain ⟨rfl, rfl⟩ := hcut
        cases hA : Ab with
        | true =>
          have hA3 : x.optSlash = true ∧ t.size + 1 = ln ∧ (t.toList == (ct.extract 0 (ln - 1)).toList) = true := by
            have := HAB.out
            rw [hA] at this
            simpa [and_assoc] using this.symm
          have HST := Lib.hid (show matchGo chk0 part (M.drop (k + 1)) (t.data.toList.drop (ln - 1)) vs = res by
            rw [← HM.out, HD.out]
            refine (mg_opt HP.out hA3.1 (n := ln - 1) (by rw [HXL.out]; omega) (by rw [size_data]; omega) ?_).symm
            rw [hcd.out, ← hTA.out]
            exact (str_iff _ _).1 hA3.2.2)
          have hsz := hA3.2.1
          have HF := Lib.hid (filter_drop0 HX.out HP.out)
          clear hA hA3
          by_cases h0 : t.size = 0
          · have HT0 := Lib.hid h0
            have HS0 := Lib.hid (show matchGo chk0 part (M.drop (k + 1)) t.data.toList vs = res by
              have h5 : t.data.toList = [] := List.length_eq_zero_iff.1 (by rw [size_data]; exact HT0.out)
              have h6 := HST.out
              rw [h5, List.drop_nil] at h6
              rw [h5]; exact h6)
            go_wp2_with fail
            go_roundw
            case rel => exact ⟨k + 1, t, vs, by omega, rfl, rfl, rfl, by go_num, hts, HS0.out, HAr.out, by rw [← HF.out]; exact H30.out⟩
            case measure => simp [intOf]; omega
          · have h1 : 0 < t.size := by omega
            have e5 : (ln : Int) - 1 ≤ (t.size : Int) := by omega
            have hex := Lib.hid (extract_from t (ln - 1))
            clear h0
            go_upto_region 26 with fail
            go_quiet (fail)
            go_wp2_with fail
            go_roundw
            case rel => exact ⟨k + 1, t.extract (ln - 1) t.size, vs, by omega, rfl, rfl, rfl, by go_num, by simp; omega, by rw [hex.out]; exact HST.out, HAr.out.drewN _, by rw [← HF.out]; exact H30.out⟩
            case measure => simp [intOf]; omega
        | false =>
          have hA3 := Lib.hid (show ¬ (x.optSlash = true ∧ t.size + 1 = ln ∧ (t.toList == (ct.extract 0 (ln - 1)).toList) = true) by
            have := HAB.out
            rw [hA] at this
            rintro ⟨a, b, c⟩
            rw [a, decide_eq_true b, c] at this
            cases this)
          clear hA
          obtain ⟨Bb, hBb⟩ : ∃ Bb, Bb = (decide (ln ≤ t.size) && ((t.extract 0 ln).toList == ct.toList)) := ⟨_, rfl⟩
          have HBB := Lib.hid hBb
          clear hBb
          go_upto_region 10 with fail
          go_cut [75] from 62 to 75 (fun v wx => v = .bool (!Bb) ∧ ∃ nq, wx = wr.drewN nq)
          case first =>
            by_cases hle : ln ≤ t.size
            · have hd : decide ((ln : Int) ≤ (t.size : Int)) = true := decide_eq_true (by omega)
              have hd2 : decide (ln ≤ t.size) = true := decide_eq_true hle
              have HLE := Lib.hid hle
              go_quiet (fail)
              go_wp2_with fail
              go_meet
              case rel => exact ⟨by rw [HBB.out, decide_eq_true HLE.out]; simp, _, rfl⟩
            · have hd : decide ((ln : Int) ≤ (t.size : Int)) = false := decide_eq_false (by omega)
              have hd2 : decide (ln ≤ t.size) = false := decide_eq_false hle
              have HLE := Lib.hid hle
              clear hle
              go_quiet (fail)
              go_wp2_with fail
              go_meet
              case rel => exact ⟨by rw [HBB.out, decide_eq_false HLE.out]; rfl, _, rfl⟩
          case rest =>
          obtain ⟨rfl, nq, rfl⟩ := hcut
          cases hB : Bb with
          | true =>
            have hB2 : ln ≤ t.size ∧ ((t.extract 0 ln).toList == ct.toList) = true := by
              have := HBB.out
              rw [hB] at this
              simpa using this.symm
            have HST := Lib.hid (show matchGo chk0 part (M.drop (k + 1)) (t.data.toList.drop ln) vs = res by
              rw [← HM.out, HD.out]
              refine (mg_full HP.out (n := ln) HXL.out (by rw [size_data]; omega) ?_).symm
              rw [hcd.out, ← hTB.out]
              exact (str_iff _ _).1 hB2.2)
            have hle := hB2.1
            have HF := Lib.hid (filter_drop0 HX.out HP.out)
            have h1 : 0 < t.size := by omega
            have hex := Lib.hid (extract_from t ln)
            clear hB hB2
            go_upto_region 26 with fail
            go_quiet (fail)
            go_wp2_with fail
            go_roundw
            case rel => exact ⟨k + 1, t.extract ln t.size, vs, by omega, rfl, rfl, rfl, by go_num, by simp; omega, by rw [hex.out]; exact HST.out, HAr.out.drewN _, by rw [← HF.out]; exact H30.out⟩
            case measure => simp [intOf]; omega
          | false =>
            have hB2 : ¬ (ln ≤ t.size ∧ ((t.extract 0 ln).toList == ct.toList) = true) := by
              have := HBB.out
              rw [hB] at this
              rintro ⟨b, c⟩
              rw [decide_eq_true b, c] at this
              cases this
            have HST := Lib.hid (show res = none by
              rw [← HM.out, HD.out]
              refine mg_fail HP.out (n := ln) HXL.out ?_ ?_
              · rintro ⟨a, b, c⟩
                rw [size_data] at b
                refine hA3.out ⟨a, by omega, (str_iff _ _).2 ?_⟩
                rw [hTA.out, ← hcd.out]; exact c
              · rintro ⟨a, b⟩
                rw [size_data] at a
                refine hB2 ⟨a, (str_iff _ _).2 ?_⟩
                rw [hTB.out, ← hcd.out]; exact b)
            clear hB hB2
            go_wp2_with fail
            go_ret
            exact ⟨ret_bool (by rw [HST.out]; rfl), (HAr.out.drewN _).touch, fun v hv => by rw [HST.out] at hv; cases hv⟩
      | true =>
        rw [hp] at c1
        have HP := Lib.hid hp
        have hcall := paramLen_any t g x (.slice ca 0 ccap) wr (by omega) HO.out HGD.out.pc0 HGD.out.pc1 (by have := HGD.out.cmp; omega) HGD.out.len0 (by have := HGD.out.len1; omega)
        have hple := paramLen_le t.data.toList x
        rw [size_data] at hple
        obtain ⟨p, hpp⟩ : ∃ p, p = paramLen t.data.toList x := ⟨_, rfl⟩
        rw [← hpp] at hcall hple
        have HPP := Lib.hid hpp
        have HC := Lib.hid hcall
        have HF := Lib.hid (filter_drop HX.out hp)
        clear hcall hpp hp
        go_wp2_with fail
        refine HC.out.mono ?_
        rintro e w2 ⟨rfl, hb2⟩
        have har2 := HAr.out.below hb2
        have ho2 := HO.out.below hb2 HO.out.lt
        have c6' := ho2.cell 6 _ rfl
        have c9' := ho2.cell 9 _ rfl
        have hvl : vs.length < 30 := by have := H30.out; have := HF.out; omega
        obtain ⟨⟨av, ca'⟩, fa⟩ := har2.cell hvl
        have HA2 := Lib.hid har2
        have HO2 := Lib.hid ho2
        clear har2 ho2 hb2 HC cr c1 c10
        obtain ⟨fb, hfb⟩ : ∃ fb, fb = (!x.optional && decide (p = 0)) := ⟨_, rfl⟩
        have HFB := Lib.hid hfb
        clear hfb
        go_upto_region 13 with fail
        go_cut [87] from 79 to 87 (fun v wx => v = .bool fb ∧ w2 = wx)
        case first =>
          cases hopt : x.optional with
          | true =>
            rw [hopt] at c6'
            have H1 := Lib.hid hopt
            clear hopt
            go_wp2
            go_meet
            case rel => exact ⟨by rw [HFB.out, H1.out]; rfl, rfl⟩
          | false =>
            rw [hopt] at c6'
            have H1 := Lib.hid hopt
            clear hopt
            by_cases hp0 : p = 0
            · have hq : ((p : Int) == 0) = true := by rw [beq_iff_eq]; omega
              have H2 := Lib.hid hp0
              clear hp0
              go_wp2
              go_meet
              case rel => exact ⟨by rw [HFB.out, H1.out, decide_eq_true H2.out]; rfl, rfl⟩
            · have hq : ((p : Int) == 0) = false := by rw [beq_eq_false_iff_ne]; omega
              have H2 := Lib.hid hp0
              clear hp0
              go_wp2
              go_meet
              case rel => exact ⟨by rw [HFB.out, H1.out, decide_eq_false H2.out]; rfl, rfl⟩
        case rest =>
        obtain ⟨rfl, rfl⟩ := hcut
        cases hB : fb with
        | true =>
          have hB2 : x.optional = false ∧ p = 0 := by
            have := HFB.out
            rw [hB] at this
            simpa using this.symm
          have HST := Lib.hid (show res = none by
            rw [← HM.out, HD.out]
            exact mg_pfail HP.out hB2.1 (by rw [← HPP.out]; exact hB2.2))
          clear hB hB2
          go_wp2_with fail
          go_ret
          exact ⟨ret_bool (by rw [HST.out]; rfl), HA2.out.touch, fun v hv => by rw [HST.out] at hv; cases hv⟩
        | false =>
          have hB2 : x.optional = true ∨ p ≠ 0 := by
            have := HFB.out
            rw [hB] at this
            cases ho : x.optional with
            | true => exact .inl rfl
            | false => right; intro hp0; rw [ho, decide_eq_true hp0] at this; cases this
          have HST := Lib.hid (show matchGo chk0 part (M.drop (k + 1)) (t.data.toList.drop p) (vs ++ [t.data.toList.take p]) = res by
            rw [← HM.out, HD.out, HPP.out]
            exact (mg_pgo HP.out HGD.out.cons (by rw [← HPP.out]; exact hB2)).symm)
          have HTK := Lib.hid (take_bs t p)
          have e1 : (p : Int) ≤ (t.size : Int) := by omega
          have e2 : (vs.length : Int) < 30 := by omega
          have e3 : (0 : Int) ≤ (vs.length : Int) := by omega
          clear hB hB2
          have n6 : ∀ v, (w2.setCell ⟨A, vs.length, none⟩ v).cell? ⟨g, 6, none⟩ = some (.bool x.optional) := fun v => cell_far hgA2 c6'
          have n9 : ∀ v, (w2.setCell ⟨A, vs.length, none⟩ v).cell? ⟨g, 9, none⟩ = some (.slice ca 0 ccap) := fun v => cell_far hgA2 c9'
          go_upto_region 15 with fail
          go_region
          have HA3 := Lib.hid (show Arr A w ((w2.setCell ⟨A, vs.length, none⟩ (.string (t.extract 0 p))).drew) (vs ++ [t.data.toList.take p]) by have := HA2.out.push (t.data.toList.take p) hvl; rw [HTK.out] at this; exact this.drewN 1)
          obtain ⟨W3, hW3⟩ : ∃ W3, W3 = (w2.setCell ⟨A, vs.length, none⟩ (.string (t.extract 0 p))).drew := ⟨_, rfl⟩
          have m6 : W3.cell? ⟨g, 6, none⟩ = some (.bool x.optional) := by rw [hW3]; exact n6 _
          have m9 : W3.cell? ⟨g, 9, none⟩ = some (.slice ca 0 ccap) := by rw [hW3]; exact n9 _
          rw [← hW3] at HA3 ⊢
          clear hW3 n6 n9
          obtain ⟨Cb, hCb⟩ : ∃ Cb, Cb = (x.optional && decide (p = 0)) := ⟨_, rfl⟩
          have HCB := Lib.hid hCb
          clear hCb
          go_upto_region 16 with fail
          go_cut [103] from 95 to 102 (fun v wx => v = .bool (!Cb) ∧ W3 = wx)
          case first =>
            cases hopt : x.optional with
            | true =>
              rw [hopt] at m6
              have H1 := Lib.hid hopt
              clear hopt
              by_cases hp0 : p = 0
              · have hq : ((p : Int) == 0) = true := by rw [beq_iff_eq]; omega
                have H2 := Lib.hid hp0
                clear hp0
                go_wp2
                go_meet
                case rel => exact ⟨by rw [HCB.out, H1.out, decide_eq_true H2.out]; rfl, rfl⟩
              · have hq : ((p : Int) == 0) = false := by rw [beq_eq_false_iff_ne]; omega
                have H2 := Lib.hid hp0
                clear hp0
                go_wp2
                go_meet
                case rel => exact ⟨by rw [HCB.out, H1.out, decide_eq_false H2.out]; rfl, rfl⟩
            | false =>
              rw [hopt] at m6
              have H1 := Lib.hid hopt
              clear hopt
              go_wp2
              go_meet
              case rel => exact ⟨by rw [HCB.out, H1.out]; rfl, rfl⟩
          case rest =>
          obtain ⟨rfl, rfl⟩ := hcut
          go_upto_if 103 with fail
          go_cut [17, 18, 103] from 104 to 122 (fun _ _ _ wx => Arr A w wx (vs ++ [t.data.toList.take p]))
          case first =>
            cases hcb : Cb with
            | true =>
              go_wp2_with fail
              go_meet
              exact HA3.out
            | false =>
              go_wp2_with fail
              go_loopw [109] (fun i wx => i = .int .i64 0 ∧ Arr A w wx (vs ++ [t.data.toList.take p])) (fun _ _ => 0)
              case atStart => exact ⟨rfl, HA3.out⟩
              case round =>
                obtain ⟨rfl, ha4⟩ := hrel
                have HA4 := Lib.hid ha4
                clear ha4
                go_wp2_with fail
                go_meet
                exact HA4.out
          case rest =>
          have HA4 := Lib.hid hcut
          clear hcut HA3
          by_cases h0 : t.size = 0
          · have HT0 := Lib.hid h0
            have HS0 := Lib.hid (show matchGo chk0 part (M.drop (k + 1)) t.data.toList (vs ++ [t.data.toList.take p]) = res by
              have h5 : t.data.toList = [] := List.length_eq_zero_iff.1 (by rw [size_data]; exact HT0.out)
              have h6 := HST.out
              rw [h5, List.drop_nil] at h6
              rw [h5]; exact h6)
            go_wp2_with fail
            go_roundw
            case rel => exact ⟨k + 1, t, vs ++ [t.data.toList.take p], by omega, rfl, rfl, by rw [List.length_append]; go_num, by go_num, hts, HS0.out, HA4.out, by have h7 := HF.out; have h8 := H30.out; simp only [List.length_append, List.length_singleton]; omega⟩
            case measure => simp [intOf]; omega
          · have h1 : 0 < t.size := by omega
            have hex := Lib.hid (extract_from t p)
            clear h0
            go_upto_region 26 with fail
            go_quiet (fail)
            go_wp2_with fail
            go_roundw
            case rel => exact ⟨k + 1, t.extract p t.size, vs ++ [t.data.toList.take p], by omega, rfl, rfl, by rw [List.length_append]; go_num, by go_num, by simp; omega, by rw [hex.out]; exact HST.out, HA4.out.drewN _, by have h7 := HF.out; have h8 := H30.out; simp only [List.length_append, List.length_singleton]; omega⟩
            case measure => simp [intOf]; omega
    · obtain rfl : k = n := by omega
      have hnil : M.drop k = [] := List.drop_of_length_le (by have := HN.out; omega)
      have HRE := Lib.hid (show (if t.data.toList ≠ [] ∧ part = false then none else some vs) = res by rw [← HM.out, hnil, mg_end])
      cases hpt : part with
      | true =>
        have HPT := Lib.hid hpt
        clear hpt
        have HSM := Lib.hid (show res = some vs by rw [← HRE.out, HPT.out]; simp)
        go_wp2
        all_goals
          go_ret
          exact ⟨ret_bool (by rw [HSM.out]; rfl), HAr.out.touch, fun v hv => by rw [HSM.out] at hv; cases hv; exact HAr.out⟩
      | false =>
        have HPT := Lib.hid hpt
        clear hpt
        have hte : t.toList.isEmpty = decide (t.data.toList = []) := by rw [Lib.toList_data, Bool.eq_iff_iff, List.isEmpty_iff, decide_eq_true_iff]
        have HTE := Lib.hid hte
        clear hte
        cases hem : t.toList.isEmpty with
        | true =>
          have HEM := Lib.hid (show t.data.toList = [] by have := HTE.out; rw [hem] at this; exact of_decide_eq_true this.symm)
          have HSM := Lib.hid (show res = some vs by rw [← HRE.out, HPT.out, if_neg (by rintro ⟨a, _⟩; exact a HEM.out)])
          go_wp2
          go_ret
          exact ⟨ret_bool (by rw [HSM.out]; rfl), HAr.out.touch, fun v hv => by rw [HSM.out] at hv; cases hv; exact HAr.out⟩
        | false =>
          have HEM := Lib.hid (show t.data.toList ≠ [] by have := HTE.out; rw [hem] at this; exact of_decide_eq_false this.symm)
          have HSM := Lib.hid (show res = none by rw [← HRE.out, HPT.out, if_pos ⟨HEM.out, rfl⟩])
          go_wp2
          go_ret
          exact ⟨ret_bool (by rw [HSM.out]; rfl), HAr.out.touch, fun v hv => by rw [HSM.out] at hv; cases hv⟩
end Go.Proofs.YtiebedcldbmlhaaGreatDoor
