/-
  Joined: getMatch, of any text and any segments that lie in memory, with any constraints; What the segments of a parsed pattern are held to: sizes, counts, lengths, constraints. No program in this text.   Conditions: patterns of at most a million bytes.
  Conditions: each law's own.
-/
import Derived.Test.YtiebedcldbmlhaaGreatDoorK34
import Derived.Test.YtiebedcldbmlhaaGreatDoorK33
namespace Go.Proofs.YtiebedcldbmlhaaGreatDoor
open Go.RowKit
set_option linter.unusedVariables false

section
variable {K : Con → Bs → Bool} {part : Bool} {x : Seg} {R : List Seg} {s : Bs} {vs : List Bs}
theorem mk_opt {n : Nat} (hp : x.isParam = false) (ho : x.optSlash = true) (hl : x.length = (n : Int) + 1) (h1 : s.length = n) (h2 : s = x.const.take n) :
    matchGo K part (x :: R) s vs = matchGo K part R (s.drop n) vs := by
  have e : (x.length - 1).toNat = n := by omega
  rw [mj_const hp, e, if_pos ⟨ho, by omega, h2⟩]
theorem mk_full {n : Nat} (hp : x.isParam = false) (hl : x.length = (n : Int)) (h1 : n ≤ s.length) (h2 : s.take n = x.const) :
    matchGo K part (x :: R) s vs = matchGo K part R (s.drop n) vs := by
  have e : x.length.toNat = n := by omega
  rw [mj_const hp, e, if_neg (by rintro ⟨_, h, _⟩; omega), if_pos ⟨by omega, h2⟩]
theorem mk_fail {n : Nat} (hp : x.isParam = false) (hl : x.length = (n : Int)) (h0 : ¬ (x.optSlash = true ∧ (s.length : Int) = n - 1 ∧ s = x.const.take (n - 1))) (h2 : ¬ (n ≤ s.length ∧ s.take n = x.const)) :
    matchGo K part (x :: R) s vs = none := by
  have e : x.length.toNat = n := by omega
  have e2 : (x.length - 1).toNat = n - 1 := by omega
  rw [mj_const hp, e, e2, if_neg (by rintro ⟨a, b, c⟩; exact h0 ⟨a, by omega, c⟩), if_neg (by rintro ⟨a, b⟩; exact h2 ⟨by omega, b⟩)]
theorem mk_pfail (hp : x.isParam = true) (ho : x.optional = false) (hl : paramLen s x = 0) : matchGo K part (x :: R) s vs = none := by
  rw [mj_param hp, if_pos ⟨by rw [ho]; rfl, hl⟩]
theorem mk_pno (hp : x.isParam = true) (ho : x.optional = true ∨ paramLen s x ≠ 0) (hc : (x.optional && decide (paramLen s x = 0)) = false) {c : Con} (hm : c ∈ x.cons) (hk : K c (s.take (paramLen s x)) = false) : matchGo K part (x :: R) s vs = none := by
  have h0 : ¬ ((!x.optional) = true ∧ paramLen s x = 0) := by
    rintro ⟨h1, h2⟩
    rcases ho with h | h
    · rw [h] at h1; cases h1
    · exact h h2
  rw [mj_param hp, if_neg h0, if_pos ⟨by rw [hc]; rfl, by rw [List.any_eq_true]; exact ⟨c, hm, by rw [hk]; rfl⟩⟩]
theorem mk_pgo (hp : x.isParam = true) (ho : x.optional = true ∨ paramLen s x ≠ 0) (hc : (x.optional && decide (paramLen s x = 0)) = true ∨ ∀ c ∈ x.cons, K c (s.take (paramLen s x)) = true) :
    matchGo K part (x :: R) s vs = matchGo K part R (s.drop (paramLen s x)) (vs ++ [s.take (paramLen s x)]) := by
  have h0 : ¬ ((!x.optional) = true ∧ paramLen s x = 0) := by
    rintro ⟨h1, h2⟩
    rcases ho with h | h
    · rw [h] at h1; cases h1
    · exact h h2
  have h1 : ¬ ((!(x.optional && decide (paramLen s x = 0)) = true) ∧ (x.cons.any fun c => !K c (s.take (paramLen s x))) = true) := by
    rintro ⟨h1, h2⟩
    rcases hc with h | h
    · rw [h] at h1; cases h1
    · obtain ⟨c, hm, hk⟩ := List.any_eq_true.1 h2
      rw [h c hm] at hk; cases hk
  rw [mj_param hp, if_neg h0, if_neg h1]
end
/-- What a walk over a segment wants. -/
structure GoodD (x : Seg) : Prop where
  const : x.const.length ≤ 1000000
  cmp : x.cmp.length ≤ 1000000
  pc0 : 0 ≤ x.partCount
  pc1 : x.partCount ≤ 140737488351232
  len0 : 0 ≤ x.length
  len1 : x.length ≤ 1000000
  cons : ∀ c ∈ x.cons, 1 ≤ c.id ∧ c.id ≤ 15 ∧ ∀ d ∈ c.data, d.length ≤ 1000000
  own : x.isParam = false → x.length = x.const.length ∧ x.const ≠ []
theorem Arr.at_ {A : Nat} {w wr : World} {vs : List Bs} (h : Arr A w wr vs) {i : Nat} {v : Bs} (hi : vs[i]? = some v) : wr.cell? ⟨A, i, none⟩ = some (.string (bs v)) := by
  obtain ⟨cur, h1, h2, h3⟩ := h.arr
  exact obj_cell h1 (h3 i v hi)
theorem slice_inj {a b : Option Addr} {n m c d : Nat} (h : Value.slice a n c = Value.slice b m d) : a = b ∧ n = m ∧ c = d := by
  cases h; exact ⟨rfl, rfl, rfl⟩
set_option maxHeartbeats 4000000 in
set_option maxRecDepth 100000 in
theorem match_all (T : Nat → Nat × Nat) (d : ByteArray) (part : Bool) (Q cap A B0 : Nat) (ao : Option Addr) (M : List Seg) (gs : List Nat) (cvs : List Value) (W1 w : World) (hd : d.size ≤ 1000000000) (hl : M.length ≤ 1000000)
    (hE : EnvA T W1) (hW : Below W1.heap.size W1 w) (hAW : W1.heap.size ≤ A)
    (hQ : w.cell? ⟨Q, 0, none⟩ = some (.slice ao M.length cap)) (hrow : ∀ (i : Nat) (g : Nat), gs[i]? = some g → ∃ r, ao = some ⟨r, 0, none⟩ ∧ r ≠ A ∧ w.cell? ⟨r, i, none⟩ = some (.pointer (some ⟨g, 0, none⟩)))
    (hin : SegsIn w gs M cvs) (hcons : ConsOK B0 W1 gs cvs M) (hgood : ∀ x ∈ M, GoodD x) (hcnt : (M.filter (·.isParam)).length ≤ 30)
    (hA : Arr A w w []) (hAg : A ∉ gs) :
    Calls Tryz.prog 44 #[.pointer (some ⟨Q, 0, none⟩), .string d, .string d, .pointer (some ⟨A, 0, none⟩), .bool part] w fun e w' => e = .returned (.bool (matchGo (chk T) part M d.data.toList []).isSome) ∧ Touch [A] w w' ∧ ∀ vs, matchGo (chk T) part M d.data.toList [] = some vs → Arr A w w' vs := by
  have HROW := Lib.hid hrow
  have HIN := Lib.hid hin
  have HG := Lib.hid hgood
  have HCO := Lib.hid hcons
  have HKEEP := Lib.hid (show ∀ wx, Touch [A] w wx → Below W1.heap.size W1 wx from fun wx ht => hW.trans (touch_to_below ht (fun g hg => by simp at hg; omega) hW.size))
  have HEN := Lib.hid hE
  have HA := Lib.hid hA
  obtain ⟨n, hn⟩ : ∃ n, n = M.length := ⟨_, rfl⟩
  rw [← hn] at hQ hl
  have HN := Lib.hid hn
  obtain ⟨res, hres⟩ : ∃ res, res = matchGo (chk T) part M d.data.toList [] := ⟨_, rfl⟩
  have HR := Lib.hid hres
  rw [← hres]
  clear hrow hin hgood hcons hA hn hres hE hW
  go_enter Tryz.func44, Tryz.ntmps44
  go_wp2_with fail
  go_loopw [1, 2, 12, 24] (fun a b c i wr => ∃ (k : Nat) (t : ByteArray) (vs : List Bs), k ≤ n ∧ a = .string t ∧ b = .string t ∧ c = .int .i64 (vs.length : Nat) ∧ i = .int .i64 k ∧ t.size ≤ d.size ∧ matchGo (chk T) part (M.drop k) t.data.toList vs = res ∧ Arr A w wr vs ∧ vs.length + ((M.drop k).filter (·.isParam)).length ≤ 30) (fun _ _ _ i _ => n - (intOf i).toNat)
  case atStart => exact ⟨0, d, [], Nat.zero_le _, rfl, rfl, rfl, rfl, Nat.le_refl _, by rw [HR.out]; rfl, HA.out, by simpa using hcnt⟩
  case round =>
    obtain ⟨k, t, vs, hk, rfl, rfl, rfl, rfl, hts, hm, ha, hc30⟩ := hrel
    have HM := Lib.hid hm
    have HAr := Lib.hid ha
    have H30 := Lib.hid hc30
    clear hm ha hc30
    by_cases hlt : k < n
    · obtain ⟨x, hx⟩ : ∃ x, M[k]? = some x := ⟨M[k]'(by have := HN.out; omega), List.getElem?_eq_getElem (by have := HN.out; omega)⟩
      obtain ⟨g, cv, hg, hcv, ho0⟩ := HIN.out.2.2 k x hx
      have hgd := HG.out x (List.mem_of_getElem? hx)
      have hgA : g ∉ [A] := by simp; rintro rfl; exact hAg (List.mem_of_getElem? hg)
      have ho : SegObj wr g x cv := (HAr.out.touch.block g ho0.lt hgA).trans ho0
      obtain ⟨r, hao, hrA, hcr⟩ := HROW.out k g hg
      have hcok := HCO.out k x g cv hx hg hcv
      have HCOK := Lib.hid hcok
      subst hao
      have cr := touch_cell HAr.out.touch (by simpa using hrA) hcr
      have hds := drop_at hx
      have HX := Lib.hid hx
      have HO := Lib.hid ho
      have HD := Lib.hid hds
      have c1 := ho.cell 1 _ rfl
      have c10 := ho.cell 10 _ rfl
      have HGD := Lib.hid hgd
      have hgA2 : A ≠ g := by rintro rfl; exact hAg (List.mem_of_getElem? hg)
      clear hx hg hcv ho0 ho hds hgd hgA hcok hcr
      cases hp : x.isParam with
      | false =>
        rw [hp] at c1
        have HP := Lib.hid hp
        have hown := HGD.out.own hp
        obtain ⟨ln, hln⟩ : ∃ ln, x.const.length = ln := ⟨_, rfl⟩
        have hl1 : 1 ≤ ln := by have := List.length_pos_iff.2 hown.2; omega
        have hl6 : ln ≤ 1000000 := by have := HGD.out.const; omega
        have HXL := Lib.hid (hown.1.trans (by rw [hln]))
        rw [HXL.out] at c10
        have c8 := HO.out.cell 8 _ rfl
        have c0 := HO.out.cell 0 _ rfl
        obtain ⟨ct, hct⟩ : ∃ ct, ct = bs x.const := ⟨_, rfl⟩
        have hcd := Lib.hid (show x.const = ct.data.toList by rw [hct, bs_data])
        have hcs : ct.size = ln := by rw [hct]; exact hln
        have HCS := Lib.hid hcs
        rw [← hct] at c0
        have e1 : IntKind.i64.wrap ((ln : Int) - 1) = (ln : Int) - 1 := IntWalk.i64_in _ (by omega)
        have e2 : (0 : Int) ≤ (ln : Int) - 1 := by omega
        have e3 : ((ln : Int) - 1).toNat = ln - 1 := by omega
        have e4 : (ln : Int) - 1 ≤ (ct.size : Int) := by omega
        have hTA := Lib.hid (take_ext0 ct (ln - 1))
        have hTB := Lib.hid (take_ext0 t ln)
        have hsd := Lib.hid (size_data t)
        obtain ⟨Ab, hAb⟩ : ∃ Ab, Ab = (x.optSlash && decide (t.size + 1 = ln) && (t.toList == (ct.extract 0 (ln - 1)).toList)) := ⟨_, rfl⟩
        have HAB := Lib.hid hAb
        clear hAb hcs hct hln hown hp
        go_upto_region 8 with fail
        go_cut [59] from 39 to 59 (fun v wx => v = .bool Ab ∧ wr = wx)
        case first =>
          cases hos : x.optSlash with
          | false =>
            rw [hos] at c8
            have HS := Lib.hid hos
            clear hos
            go_wp2
            go_meet
            case rel => exact ⟨by rw [HAB.out, HS.out]; rfl, rfl⟩
          | true =>
            rw [hos] at c8
            have HS := Lib.hid hos
            clear hos
            by_cases hsz : t.size + 1 = ln
            · have hq : ((t.size : Int) == (ln : Int) - 1) = true := by rw [beq_iff_eq]; omega
              have HZ := Lib.hid hsz
              clear hsz
              go_wp2
              go_meet
              case rel => exact ⟨by rw [HAB.out, HS.out, decide_eq_true HZ.out]; simp, rfl⟩
            · have hq : ((t.size : Int) == (ln : Int) - 1) = false := by rw [beq_eq_false_iff_ne]; omega
              go_wp2
              go_meet
              case rel => exact ⟨by rw [HAB.out, HS.out, decide_eq_false hsz]; rfl, rfl⟩
        case rest =>
        obtain ⟨rfl, rfl⟩ := hcut
        cases hA : Ab with
        | true =>
          have hA3 : x.optSlash = true ∧ t.size + 1 = ln ∧ (t.toList == (ct.extract 0 (ln - 1)).toList) = true := by
            have := HAB.out
            rw [hA] at this
            simpa [and_assoc] using this.symm
          have HST := Lib.hid (show matchGo (chk T) part (M.drop (k + 1)) (t.data.toList.drop (ln - 1)) vs = res by
            rw [← HM.out, HD.out]
            refine (mk_opt HP.out hA3.1 (n := ln - 1) (by rw [HXL.out]; omega) (by rw [size_data]; omega) ?_).symm
            rw [hcd.out, ← hTA.out]
            exact (str_iff _ _).1 hA3.2.2)
          have hsz := hA3.2.1
          have HF := Lib.hid (filter_drop0 HX.out HP.out)
          clear hA hA3
          by_cases h0 : t.size = 0
          · have HT0 := Lib.hid h0
            have HS0 := Lib.hid (show matchGo (chk T) part (M.drop (k + 1)) t.data.toList vs = res by
              have h5 : t.data.toList = [] := List.length_eq_zero_iff.1 (by rw [size_data]; exact HT0.out)
              have h6 := HST.out
              rw [h5, List.drop_nil] at h6
              rw [h5]; exact h6)
            go_wp2_with fail
            go_roundw
            case rel => exact ⟨k + 1, t, vs, by omega, rfl, rfl, rfl, by go_num, hts, HS0.out, HAr.out, by rw [← HF.out]; exact H30.out⟩
            case measure => simp [intOf]; omega
          · have h1 : 0 < t.size := by omega
            have e5 : (ln : Int) - 1 ≤ (t.size : Int) := by omega
            have hex := Lib.hid (extract_from t (ln - 1))
            clear h0
            go_upto_region 26 with fail
            go_quiet (fail)
            go_wp2_with fail
            go_roundw
            case rel => exact ⟨k + 1, t.extract (ln - 1) t.size, vs, by omega, rfl, rfl, rfl, by go_num, by simp; omega, by rw [hex.out]; exact HST.out, HAr.out.drewN _, by rw [← HF.out]; exact H30.out⟩
            case measure => simp [intOf]; omega
        | false =>
          have hA3 := Lib.hid (show ¬ (x.optSlash = true ∧ t.size + 1 = ln ∧ (t.toList == (ct.extract 0 (ln - 1)).toList) = true) by
            have := HAB.out
            rw [hA] at this
            rintro ⟨a, b, c⟩
            rw [a, decide_eq_true b, c] at this
            cases this)
          clear hA
          obtain ⟨Bb, hBb⟩ : ∃ Bb, Bb = (decide (ln ≤ t.size) && ((t.extract 0 ln).toList == ct.toList)) := ⟨_, rfl⟩
          have HBB := Lib.hid hBb
          clear hBb
          go_upto_region 10 with fail
          go_cut [75] from 62 to 75 (fun v wx => v = .bool (!Bb) ∧ ∃ nq, wx = wr.drewN nq)
          case first =>
            by_cases hle : ln ≤ t.size
            · have hd : decide ((ln : Int) ≤ (t.size : Int)) = true := decide_eq_true (by omega)
              have hd2 : decide (ln ≤ t.size) = true := decide_eq_true hle
              have HLE := Lib.hid hle
              go_quiet (fail)
              go_wp2_with fail
              go_meet
              case rel => exact ⟨by rw [HBB.out, decide_eq_true HLE.out]; simp, _, rfl⟩
            · have hd : decide ((ln : Int) ≤ (t.size : Int)) = false := decide_eq_false (by omega)
              have hd2 : decide (ln ≤ t.size) = false := decide_eq_false hle
              have HLE := Lib.hid hle
              clear hle
              go_quiet (fail)
              go_wp2_with fail
              go_meet
              case rel => exact ⟨by rw [HBB.out, decide_eq_false HLE.out]; rfl, _, rfl⟩
          case rest =>
          obtain ⟨rfl, nq, rfl⟩ := hcut
          cases hB : Bb with
          | true =>
            have hB2 : ln ≤ t.size ∧ ((t.extract 0 ln).toList == ct.toList) = true := by
              have := HBB.out
              rw [hB] at this
              simpa using this.symm
            have HST := Lib.hid (show matchGo (chk T) part (M.drop (k + 1)) (t.data.toList.drop ln) vs = res by
              rw [← HM.out, HD.out]
              refine (mk_full HP.out (n := ln) HXL.out (by rw [size_data]; omega) ?_).symm
              rw [hcd.out, ← hTB.out]
              exact (str_iff _ _).1 hB2.2)
            have hle := hB2.1
            have HF := Lib.hid (filter_drop0 HX.out HP.out)
            have h1 : 0 < t.size := by omega
            have hex := Lib.hid (extract_from t ln)
            clear hB hB2
            go_upto_region 26 with fail
            go_quiet (fail)
            go_wp2_with fail
            go_roundw
            case rel => exact ⟨k + 1, t.extract ln t.size, vs, by omega, rfl, rfl, rfl, by go_num, by simp; omega, by rw [hex.out]; exact HST.out, HAr.out.drewN _, by rw [← HF.out]; exact H30.out⟩
            case measure => simp [intOf]; omega
          | false =>
            have hB2 : ¬ (ln ≤ t.size ∧ ((t.extract 0 ln).toList == ct.toList) = true) := by
              have := HBB.out
              rw [hB] at this
              rintro ⟨b, c⟩
              rw [decide_eq_true b, c] at this
              cases this
            have HST := Lib.hid (show res = none by
              rw [← HM.out, HD.out]
              refine mk_fail HP.out (n := ln) HXL.out ?_ ?_
              · rintro ⟨a, b, c⟩
                rw [size_data] at b
                refine hA3.out ⟨a, by omega, (str_iff _ _).2 ?_⟩
                rw [hTA.out, ← hcd.out]; exact c
              · rintro ⟨a, b⟩
                rw [size_data] at a
                refine hB2 ⟨a, (str_iff _ _).2 ?_⟩
                rw [hTB.out, ← hcd.out]; exact b)
            clear hB hB2
            go_wp2_with fail
            go_ret
            exact ⟨ret_bool (by rw [HST.out]; rfl), (HAr.out.drewN _).touch, fun v hv => by rw [HST.out] at hv; cases hv⟩
      | true =>
        rw [hp] at c1
        have HP := Lib.hid hp
        obtain ⟨base, hbase, ks, hks, hrow84, _, hat⟩ := HCOK.out
        obtain ⟨ca, ccap, rfl⟩ := own_form hrow84
        obtain ⟨nc, hnc⟩ : ∃ nc, nc = ks.length := ⟨_, rfl⟩
        rw [← hnc] at hrow84 HO
        have HNC := Lib.hid (show nc = x.cons.length by rw [hnc, hks])
        have HR84 := Lib.hid hrow84
        have HAT := Lib.hid hat
        clear hks hrow84 hat hnc HCOK
        have hcall := paramLen_any t g x (.slice ca nc ccap) wr (by omega) HO.out HGD.out.pc0 HGD.out.pc1 (by have := HGD.out.cmp; omega) HGD.out.len0 (by have := HGD.out.len1; omega)
        have hple := paramLen_le t.data.toList x
        rw [size_data] at hple
        obtain ⟨p, hpp⟩ : ∃ p, p = paramLen t.data.toList x := ⟨_, rfl⟩
        rw [← hpp] at hcall hple
        have HPP := Lib.hid hpp
        have HC := Lib.hid hcall
        have HF := Lib.hid (filter_drop HX.out hp)
        clear hcall hpp hp
        go_wp2_with fail
        refine HC.out.mono ?_
        rintro e w2 ⟨rfl, hb2⟩
        have har2 := HAr.out.below hb2
        have ho2 := HO.out.below hb2 HO.out.lt
        have c6' := ho2.cell 6 _ rfl
        have c9' := ho2.cell 9 _ rfl
        have hvl : vs.length < 30 := by have := H30.out; have := HF.out; omega
        obtain ⟨⟨av, ca'⟩, fa⟩ := har2.cell hvl
        have HA2 := Lib.hid har2
        have HO2 := Lib.hid ho2
        clear har2 ho2 hb2 HC cr c1 c10
        obtain ⟨fb, hfb⟩ : ∃ fb, fb = (!x.optional && decide (p = 0)) := ⟨_, rfl⟩
        have HFB := Lib.hid hfb
        clear hfb
        go_upto_region 13 with fail
        go_cut [87] from 79 to 87 (fun v wx => v = .bool fb ∧ w2 = wx)
        case first =>
          cases hopt : x.optional with
          | true =>
            rw [hopt] at c6'
            have H1 := Lib.hid hopt
            clear hopt
            go_wp2
            go_meet
            case rel => exact ⟨by rw [HFB.out, H1.out]; rfl, rfl⟩
          | false =>
            rw [hopt] at c6'
            have H1 := Lib.hid hopt
            clear hopt
            by_cases hp0 : p = 0
            · have hq : ((p : Int) == 0) = true := by rw [beq_iff_eq]; omega
              have H2 := Lib.hid hp0
              clear hp0
              go_wp2
              go_meet
              case rel => exact ⟨by rw [HFB.out, H1.out, decide_eq_true H2.out]; rfl, rfl⟩
            · have hq : ((p : Int) == 0) = false := by rw [beq_eq_false_iff_ne]; omega
              have H2 := Lib.hid hp0
              clear hp0
              go_wp2
              go_meet
              case rel => exact ⟨by rw [HFB.out, H1.out, decide_eq_false H2.out]; rfl, rfl⟩
        case rest =>
        obtain ⟨rfl, rfl⟩ := hcut
        cases hB : fb with
        | true =>
          have hB2 : x.optional = false ∧ p = 0 := by
            have := HFB.out
            rw [hB] at this
            simpa using this.symm
          have HST := Lib.hid (show res = none by
            rw [← HM.out, HD.out]
            exact mk_pfail HP.out hB2.1 (by rw [← HPP.out]; exact hB2.2))
          clear hB hB2
          go_wp2_with fail
          go_ret
          exact ⟨ret_bool (by rw [HST.out]; rfl), HA2.out.touch, fun v hv => by rw [HST.out] at hv; cases hv⟩
        | false =>
          have hB2 : x.optional = true ∨ p ≠ 0 := by
            have := HFB.out
            rw [hB] at this
            cases ho : x.optional with
            | true => exact .inl rfl
            | false => right; intro hp0; rw [ho, decide_eq_true hp0] at this; cases this
          have HB2 := Lib.hid hB2
          have HTK := Lib.hid (take_bs t p)
          have e1 : (p : Int) ≤ (t.size : Int) := by omega
          have e2 : (vs.length : Int) < 30 := by omega
          have e3 : (0 : Int) ≤ (vs.length : Int) := by omega
          clear hB hB2
          have n6 : ∀ v, (w2.setCell ⟨A, vs.length, none⟩ v).cell? ⟨g, 6, none⟩ = some (.bool x.optional) := fun v => cell_far hgA2 c6'
          have n9 : ∀ v, (w2.setCell ⟨A, vs.length, none⟩ v).cell? ⟨g, 9, none⟩ = some (.slice ca nc ccap) := fun v => cell_far hgA2 c9'
          go_upto_region 15 with fail
          go_region
          have HA3 := Lib.hid (show Arr A w ((w2.setCell ⟨A, vs.length, none⟩ (.string (t.extract 0 p))).drew) (vs ++ [t.data.toList.take p]) by have := HA2.out.push (t.data.toList.take p) hvl; rw [HTK.out] at this; exact this.drewN 1)
          obtain ⟨W3, hW3⟩ : ∃ W3, W3 = (w2.setCell ⟨A, vs.length, none⟩ (.string (t.extract 0 p))).drew := ⟨_, rfl⟩
          have m6 : W3.cell? ⟨g, 6, none⟩ = some (.bool x.optional) := by rw [hW3]; exact n6 _
          have m9 : W3.cell? ⟨g, 9, none⟩ = some (.slice ca nc ccap) := by rw [hW3]; exact n9 _
          rw [← hW3] at HA3 ⊢
          clear hW3 n6 n9
          obtain ⟨Cb, hCb⟩ : ∃ Cb, Cb = (x.optional && decide (p = 0)) := ⟨_, rfl⟩
          have HCB := Lib.hid hCb
          clear hCb
          go_upto_region 16 with fail
          go_cut [103] from 95 to 102 (fun v wx => v = .bool (!Cb) ∧ W3 = wx)
          case first =>
            cases hopt : x.optional with
            | true =>
              rw [hopt] at m6
              have H1 := Lib.hid hopt
              clear hopt
              by_cases hp0 : p = 0
              · have hq : ((p : Int) == 0) = true := by rw [beq_iff_eq]; omega
                have H2 := Lib.hid hp0
                clear hp0
                go_wp2
                go_meet
                case rel => exact ⟨by rw [HCB.out, H1.out, decide_eq_true H2.out]; rfl, rfl⟩
              · have hq : ((p : Int) == 0) = false := by rw [beq_eq_false_iff_ne]; omega
                have H2 := Lib.hid hp0
                clear hp0
                go_wp2
                go_meet
                case rel => exact ⟨by rw [HCB.out, H1.out, decide_eq_false H2.out]; rfl, rfl⟩
            | false =>
              rw [hopt] at m6
              have H1 := Lib.hid hopt
              clear hopt
              go_wp2
              go_meet
              case rel => exact ⟨by rw [HCB.out, H1.out]; rfl, rfl⟩
          case rest =>
          obtain ⟨rfl, rfl⟩ := hcut
          go_upto_if 103 with fail
          go_cut [17, 18, 103] from 104 to 122 (fun _ _ _ wx => Arr A w wx (vs ++ [t.data.toList.take p]) ∧ (Cb = true ∨ ∀ c ∈ x.cons, chk T c (t.data.toList.take p) = true))
          case first =>
            cases hcb : Cb with
            | true =>
              go_wp2_with fail
              go_meet
              exact ⟨HA3.out, .inl hcb⟩
            | false =>
              have HCF := Lib.hid (show (x.optional && decide (p = 0)) = false by rw [← HCB.out]; exact hcb)
              clear hcb
              go_wp2_with fail
              go_loopw [17, 18, 109] (fun _ _ i wx => ∃ m : Nat, m ≤ nc ∧ i = .int .i64 m ∧ Arr A w wx (vs ++ [t.data.toList.take p]) ∧ ∀ c ∈ x.cons.take m, chk T c (t.data.toList.take p) = true) (fun _ _ i _ => nc - (intOf i).toNat)
              case atStart => exact ⟨0, Nat.zero_le _, rfl, HA3.out, by simp⟩
              case round =>
                obtain ⟨m, hm, rfl, ha4, hall⟩ := hrel
                have HA4 := Lib.hid ha4
                have HALL := Lib.hid hall
                clear ha4 hall
                by_cases hmn : m < nc
                · obtain ⟨c, hc⟩ : ∃ c, x.cons[m]? = some c := ⟨x.cons[m]'(by have := HNC.out; omega), List.getElem?_eq_getElem (by have := HNC.out; omega)⟩
                  obtain ⟨kk, hkk, hcon⟩ := HAT.out m c hc
                  have hkeep := HKEEP.out _ HA4.out.touch
                  obtain ⟨g3, cap3, hsl, hg3a, hg3b, hcells⟩ := own_some HR84.out (by omega)
                  obtain ⟨rfl, _, rfl⟩ := slice_inj hsl
                  have hncm : nc ≤ 9223372036854775807 := by
                    obtain ⟨_, _, _, _, _, _, q1, q2, _, _⟩ := own_obj HR84.out (by omega)
                    unfold maxLen at q2
                    omega
                  have hcl := (hkeep.cell (p := ⟨g3, m, none⟩) hg3b).trans (hcells m _ (by unfold ptrs; rw [List.getElem?_map, hkk]; rfl))
                  have hcw : ConAt wr base g kk c := by
                    obtain ⟨b1, b2, dv, b3, b4, b5⟩ := hcon
                    exact ⟨b1, b2, dv, (hkeep.block kk (lt_of_obj b3)).trans b3, own_below b4 hkeep, b5⟩
                  have hpar := HA4.out.at_ (i := vs.length) (v := t.data.toList.take p) (by simp)
                  obtain ⟨_, fpar⟩ := HA4.out.cell hvl
                  have hgc := HGD.out.cons c (List.mem_of_getElem? hc)
                  have hchk := check_all T c kk g base (bs (t.data.toList.take p)) wr (HEN.out.below hkeep) hcw hgc.1 hgc.2.1 hgc.2.2 (by rw [bs_size, List.length_take]; omega)
                  rw [bs_data] at hchk
                  have HCK := Lib.hid hchk
                  have HC := Lib.hid hc
                  obtain ⟨X, hX⟩ : ∃ X, X = chk T c (t.data.toList.take p) := ⟨_, rfl⟩
                  rw [← hX] at HCK
                  have HX2 := Lib.hid hX
                  clear hc hcon hkk hkeep hsl hcells hcw hgc hchk hX
                  go_wp2_with fail
                  refine HCK.out.mono ?_
                  rintro e w5 ⟨rfl, hb5⟩
                  have HA5 := Lib.hid (HA4.out.below hb5)
                  clear hb5 hpar fpar hcl
                  cases hXv : X with
                  | true =>
                    have HX3 := Lib.hid (HX2.out.symm.trans hXv)
                    clear hXv
                    go_wp2_with fail
                    refine ⟨⟨_, _, _, _, _, _, _, _, _, _, _, _, _, _, _, _, _, ⟨m + 1, by omega, ?_, HA5.out, fun c' hc' => ?_⟩, rfl⟩, ?_⟩
                    · go_num
                    · obtain ⟨hml, hme⟩ := List.getElem?_eq_some_iff.1 HC.out
                      rw [← List.take_append_getElem hml, hme] at hc'
                      rcases List.mem_append.1 hc' with h | h
                      · exact HALL.out c' h
                      · obtain rfl : c' = c := by simpa using h
                        exact HX3.out
                    · simp [intOf]; omega
                  | false =>
                    have HX3 := Lib.hid (HX2.out.symm.trans hXv)
                    have HNO := Lib.hid (show res = none by
                      rw [← HM.out, HD.out]
                      refine mk_pno HP.out (by rw [← HPP.out]; exact HB2.out) (by rw [← HPP.out]; exact HCF.out) (List.mem_of_getElem? HC.out) ?_
                      rw [← HPP.out]; exact HX3.out)
                    clear hXv
                    go_wp2_with fail
                    go_ret
                    exact ⟨ret_bool (by rw [HNO.out]; rfl), HA5.out.touch, fun v hv => by rw [HNO.out] at hv; cases hv⟩
                · obtain rfl : m = nc := by omega
                  go_wp2_with fail
                  go_meet
                  refine ⟨HA4.out, .inr fun c hc => HALL.out c ?_⟩
                  rw [HNC.out, List.take_length]; exact hc
          case rest =>
          obtain ⟨hcut, hor⟩ := hcut
          have HST := Lib.hid (show matchGo (chk T) part (M.drop (k + 1)) (t.data.toList.drop p) (vs ++ [t.data.toList.take p]) = res by
            rw [← HM.out, HD.out, HPP.out]
            refine (mk_pgo HP.out (by rw [← HPP.out]; exact HB2.out) ?_).symm
            rw [← HPP.out, ← HCB.out]
            exact hor)
          clear hor
          have HA4 := Lib.hid hcut
          clear hcut HA3
          by_cases h0 : t.size = 0
          · have HT0 := Lib.hid h0
            have HS0 := Lib.hid (show matchGo (chk T) part (M.drop (k + 1)) t.data.toList (vs ++ [t.data.toList.take p]) = res by
              have h5 : t.data.toList = [] := List.length_eq_zero_iff.1 (by rw [size_data]; exact HT0.out)
              have h6 := HST.out
              rw [h5, List.drop_nil] at h6
              rw [h5]; exact h6)
            go_wp2_with fail
            go_roundw
            case rel => exact ⟨k + 1, t, vs ++ [t.data.toList.take p], by omega, rfl, rfl, by rw [List.length_append]; go_num, by go_num, hts, HS0.out, HA4.out, by have h7 := HF.out; have h8 := H30.out; simp only [List.length_append, List.length_singleton]; omega⟩
            case measure => simp [intOf]; omega
          · have h1 : 0 < t.size := by omega
            have hex := Lib.hid (extract_from t p)
            clear h0
            go_upto_region 26 with fail
            go_quiet (fail)
            go_wp2_with fail
            go_roundw
            case rel => exact ⟨k + 1, t.extract p t.size, vs ++ [t.data.toList.take p], by omega, rfl, rfl, by rw [List.length_append]; go_num, by go_num, by simp; omega, by rw [hex.out]; exact HST.out, HA4.out.drewN _, by have h7 := HF.out; have h8 := H30.out; simp only [List.length_append, List.length_singleton]; omega⟩
            case measure => simp [intOf]; omega
    · obtain rfl : k = n := by omega
      have hnil : M.drop k = [] := List.drop_of_length_le (by have := HN.out; omega)
      have HRE := Lib.hid (show (if t.data.toList ≠ [] ∧ part = false then none else some vs) = res by rw [← HM.out, hnil, mj_nil])
      cases hpt : part with
      | true =>
        have HPT := Lib.hid hpt
        clear hpt
        have HSM := Lib.hid (show res = some vs by rw [← HRE.out, HPT.out]; simp)
        go_wp2
        all_goals
          go_ret
          exact ⟨ret_bool (by rw [HSM.out]; rfl), HAr.out.touch, fun v hv => by rw [HSM.out] at hv; cases hv; exact HAr.out⟩
      | false =>
        have HPT := Lib.hid hpt
        clear hpt
        have hte : t.toList.isEmpty = decide (t.data.toList = []) := by rw [Lib.toList_data, Bool.eq_iff_iff, List.isEmpty_iff, decide_eq_true_iff]
        have HTE := Lib.hid hte
        clear hte
        cases hem : t.toList.isEmpty with
        | true =>
          have HEM := Lib.hid (show t.data.toList = [] by have := HTE.out; rw [hem] at this; exact of_decide_eq_true this.symm)
          have HSM := Lib.hid (show res = some vs by rw [← HRE.out, HPT.out, if_neg (by rintro ⟨a, _⟩; exact a HEM.out)])
          go_wp2
          go_ret
          exact ⟨ret_bool (by rw [HSM.out]; rfl), HAr.out.touch, fun v hv => by rw [HSM.out] at hv; cases hv; exact HAr.out⟩
        | false =>
          have HEM := Lib.hid (show t.data.toList ≠ [] by have := HTE.out; rw [hem] at this; exact of_decide_eq_false this.symm)
          have HSM := Lib.hid (show res = none by rw [← HRE.out, HPT.out, if_pos ⟨HEM.out, rfl⟩])
          go_wp2
          go_ret
          exact ⟨ret_bool (by rw [HSM.out]; rfl), HAr.out.touch, fun v hv => by rw [HSM.out] at hv; cases hv⟩
end Go.Proofs.YtiebedcldbmlhaaGreatDoor
namespace Go.Proofs.YtiebedcldbmlhaaGreatDoor
open Go.RowKit
set_option linter.unusedVariables false

/-- A constraint's kind and data are of a size. -/
def CGood (c : Con) : Prop := 1 ≤ c.id ∧ c.id ≤ 15 ∧ ∀ d ∈ c.data, d.length ≤ 1000000
theorem oneCon_good {c : Bs} {con : Con} (h : oneCon c = some con) (hl : c.length ≤ 1000000) : CGood con := by
  by_cases hb : ((nne c [40]).isSome && (lb c 41).isSome) = true
  · obtain ⟨st, h1⟩ : ∃ st, nne c [40] = some st := by
      cases h1 : nne c [40] with
      | none => rw [h1] at hb; cases hb
      | some st => exact ⟨st, rfl⟩
    obtain ⟨en, h2⟩ : ∃ en, lb c 41 = some en := by
      cases h2 : lb c 41 with
      | none => rw [h2] at hb; simp at hb
      | some en => exact ⟨en, rfl⟩
    rw [oneCon_both h1 h2] at h
    split at h
    · cases h
    · split at h
      · cases h
        exact ⟨by decide, by decide, by simp⟩
      · rename_i h15
        cases h
        have hr := ctype_range (c.take st)
        refine ⟨hr.1, hr.2, fun d hd => ?_⟩
        have hm : ∀ d ∈ splitNE ((c.drop (st + 1)).take (en - (st + 1))) 44, d.length ≤ 1000000 := fun d hd => by
          have := splitNE_mem hd
          rw [List.length_take, List.length_drop] at this
          omega
        simp only at hd
        split at hd
        · obtain ⟨y, hy, rfl⟩ := List.mem_map.1 hd
          have := hm y hy
          have h3 := List.length_filter_le (· != 92) y
          show (List.filter (· != 92) y).length ≤ _
          omega
        · exact hm d hd
  · rw [oneCon_other (by simpa using hb)] at h
    cases h
    have hr := ctype_range c
    exact ⟨hr.1, hr.2, by simp⟩
theorem allCons_good : ∀ (l : List Bs) (cs : List Con), allCons l = some cs → (∀ c ∈ l, c.length ≤ 1000000) → ∀ c ∈ cs, CGood c
  | [], cs, h, _ => by unfold allCons at h; cases h; simp
  | a :: l, cs, h, hl => by
    unfold allCons at h
    cases ha : oneCon a with
    | none => rw [ha] at h; cases h
    | some y =>
      rw [ha] at h
      simp only at h
      cases hr : allCons l with
      | none => rw [hr] at h; cases h
      | some r =>
        rw [hr] at h
        cases h
        intro c hc
        rcases List.mem_cons.1 hc with rfl | hc
        · exact oneCon_good ha (hl a (List.mem_cons_self ..))
        · exact allCons_good l r hr (fun c hc => hl c (List.mem_cons_of_mem _ hc)) c hc
theorem paramPart_cgood {p : Bs} {st pl st' pl' : Nat} {q : Bs} {x : Seg} (h : paramPart p st pl = some (q, x, st', pl')) (hl : p.length ≤ 1000000) : (∀ c ∈ x.cons, CGood c) ∧ x.length = 0 := by
  cases hs : stOf p with
  | none =>
    rw [paramPart_plain hs] at h
    have := (plainPart_facts p st pl).2.2.2.1
    have h1 : (plainPart p st pl).2.1 = x := by rw [Option.some.inj h]
    rw [h1] at this
    exact ⟨by rw [this]; simp, by rw [← h1]; rfl⟩
  | some a =>
    cases he : enOf p with
    | none =>
      have hp : paramPart p st pl = some (plainPart p st pl) := by
        unfold paramPart plainPart partOf
        unfold enOf at he
        simp only [he]
        generalize (if 0 < paramEnd p then nne (p.take (paramEnd p)) [60] else none) = o
        cases o <;> rfl
      rw [hp] at h
      have := (plainPart_facts p st pl).2.2.2.1
      have h1 : (plainPart p st pl).2.1 = x := by rw [Option.some.inj h]
      rw [h1] at this
      exact ⟨by rw [this]; simp, by rw [← h1]; rfl⟩
    | some z =>
      rw [paramPart_cons hs he] at h
      split at h
      · cases h
      · cases hc : allCons (splitNE ((p.drop (a + 1)).take (z - (a + 1))) 59) with
        | none => rw [hc] at h; cases h
        | some cons =>
          rw [hc] at h
          have h1 : (partOf p st pl (unesc (trimmed (p.take a))) cons).2.1 = x := by
            have h3 : partOf p st pl (unesc (trimmed (p.take a))) cons = (q, x, st', pl') := Option.some.inj h
            rw [h3]
          have h2 : x.cons = cons := by rw [← h1]; rfl
          refine ⟨?_, by rw [← h1]; rfl⟩
          rw [h2]
          refine allCons_good _ _ hc fun c hm => ?_
          have := splitNE_mem hm
          rw [List.length_take, List.length_drop] at this
          omega
def PreD (x : Seg) : Prop := x.const.length ≤ 1000000 ∧ x.partCount = 0 ∧ x.cmp.length ≤ 1000000 ∧ (∀ c ∈ x.cons, CGood c) ∧ (x.isParam = true → x.length = 0) ∧ (x.isParam = false → x.length = x.const.length)
theorem good_metaD : ∀ (L M : List Seg), metaFwd L = some M → L.length ≤ 1000000 → (∀ x ∈ L, PreD x) → (∀ y ∈ M, GoodD y) ∧ M.map (·.isParam) = L.map (·.isParam) ∧ M.map (·.name) = L.map (·.name)
  | [], M, h, hl, hp => by
    have : M = [] := by unfold metaFwd at h; cases h; rfl
    subst this
    exact ⟨by simp, rfl, rfl⟩
  | x :: r, M, h, hl, hp => by
    have hx := hp x (List.mem_cons_self ..)
    have hr : ∀ y ∈ r, PreD y := fun y hy => hp y (List.mem_cons_of_mem _ hy)
    have hrl : r.length ≤ 1000000 := by simp at hl; omega
    cases hip : x.isParam with
    | true =>
      obtain ⟨T', hT, rfl⟩ := mf_param h hip
      obtain ⟨i1, i2, i3⟩ := good_metaD r T' hT hrl hr
      refine ⟨fun y hy => ?_, by simp [i2], by simp [i3]⟩
      rcases List.mem_cons.1 hy with rfl | hy
      · have hpc : 0 ≤ (if x.cmp = [] then x.partCount else r.foldl (addC x.cmp) x.partCount) ∧ (if x.cmp = [] then x.partCount else r.foldl (addC x.cmp) x.partCount) ≤ 140737488351232 := by
          split
          · rw [hx.2.1]; omega
          · have := addC_fold x.cmp r (fun y hy => (hr y hy).1) x.partCount hx.2.1
            omega
        have hlo : 0 ≤ lenOf x r ∧ lenOf x r ≤ 1000000 := by
          unfold lenOf
          split
          · omega
          · rw [hx.2.2.2.2.1 hip]; omega
        exact ⟨hx.1, hx.2.2.1, hpc.1, hpc.2, hlo.1, hlo.2, hx.2.2.2.1, fun h => by rw [hip] at h; cases h⟩
      · exact i1 y hy
    | false =>
      obtain ⟨c, T', hc, hT, rfl⟩ := mf_const h hip
      obtain ⟨i1, i2, i3⟩ := good_metaD r T' hT hrl hr
      have hown : x.length = x.const.length ∧ x.const ≠ [] := ⟨hx.2.2.2.2.2 hip, by rintro e; rw [e] at hc; cases hc⟩
      have hxc := hx.1
      refine ⟨fun y hy => ?_, ?_, ?_⟩
      · rcases List.mem_cons.1 hy with rfl | hy
        · split
          · exact ⟨hx.1, hx.2.2.1, by show (0 : Int) ≤ x.partCount; rw [hx.2.1]; omega, by show x.partCount ≤ _; rw [hx.2.1]; omega, by show (0 : Int) ≤ x.length; rw [hown.1]; omega, by show x.length ≤ _; rw [hown.1]; omega, hx.2.2.2.1, fun _ => hown⟩
          · exact ⟨hx.1, hx.2.2.1, by rw [hx.2.1]; omega, by rw [hx.2.1]; omega, by rw [hown.1]; omega, by rw [hown.1]; omega, hx.2.2.2.1, fun _ => hown⟩
        · exact i1 y hy
      · rw [List.map_cons, List.map_cons, i2]; congr 1; split <;> rfl
      · rw [List.map_cons, List.map_cons, i3]; congr 1; split <;> rfl

theorem pre_backD : ∀ (L : List Seg), (∀ x ∈ L, PreD x ∧ x.cmp = []) → (∀ y ∈ (cmpBack L).1, PreD y) ∧ (cmpBack L).1.map (·.isParam) = L.map (·.isParam) ∧ (cmpBack L).1.map (·.name) = L.map (·.name)
  | [], h => ⟨by simp [cmpBack], rfl, rfl⟩
  | x :: r, h => by
    obtain ⟨i1, i2, i3⟩ := pre_backD r fun z hz => h z (List.mem_cons_of_mem _ hz)
    have hx := (h x (List.mem_cons_self ..)).1
    cases hp : x.isParam with
    | true =>
      rw [cmpBack_param hp]
      refine ⟨fun y hy => ?_, by simp [i2], by simp [i3]⟩
      rcases List.mem_cons.1 hy with rfl | hy
      · have h1 := List.length_filter_le (· != 92) (cmpBack r).2
        have h2 := cmpBack_le (B := 1000000) r fun z hz => (h z (List.mem_cons_of_mem _ hz)).1.1
        refine ⟨hx.1, hx.2.1, ?_, hx.2.2.2.1, hx.2.2.2.2.1, hx.2.2.2.2.2⟩
        show (List.filter (· != 92) _).length ≤ _
        omega
      · exact i1 y hy
    | false =>
      rw [cmpBack_const hp]
      refine ⟨fun y hy => ?_, by simp [i2], by simp [i3]⟩
      rcases List.mem_cons.1 hy with rfl | hy
      · exact hx
      · exact i1 y hy
theorem pre_goD : ∀ (k : Nat) (p : Bs) (st pl : Nat) (S : List Seg) (N : List Bs) (T : List Seg) (U : List Bs), parseGo k p st pl S N = some (T, U) → p.length ≤ 1000000 → S.length + p.length ≤ 1000000 → (∀ x ∈ S, PreD x ∧ x.cmp = []) → N = (S.filter (·.isParam)).map (·.name) →
    (∀ x ∈ T, PreD x ∧ x.cmp = []) ∧ U = (T.filter (·.isParam)).map (·.name) ∧ T.length ≤ 1000000
  | 0, p, st, pl, S, N, T, U, h, hl, hsl, hS, hN => by
    unfold parseGo at h; cases h
    exact ⟨hS, hN, by omega⟩
  | k + 1, p, st, pl, S, N, T, U, h, hl, hsl, hS, hN => by
    by_cases h0 : p = []
    · subst h0
      rw [go_step_end] at h; cases h
      exact ⟨hS, hN, by simpa using hsl⟩
    · have hp0 : 0 < p.length := List.length_pos_iff.2 h0
      by_cases hp : paramPos p = some 0
      · rcases hpt : paramPart p st pl with _ | ⟨q, x, st', pl'⟩
        · rw [step_none hp hpt h0] at h; cases h
        rw [step_param2 hp hpt h0] at h
        have hpf := paramPart_facts hpt
        have hcg := paramPart_cgood hpt hl
        have hlen : 1 ≤ q.length := by rw [hpf.1, List.length_take]; omega
        refine pre_goD k _ _ _ _ _ T U h (by rw [List.length_drop]; omega) (by rw [List.length_drop, List.length_append, List.length_singleton]; omega) (fun y hy => ?_) ?_
        · rcases List.mem_append.1 hy with hm | hm
          · exact hS y hm
          · obtain rfl : y = x := by simpa using hm
            exact ⟨⟨by rw [hpf.2.1]; simp, hpf.2.2.1, by rw [hpf.2.2.2.1]; simp, hcg.1, fun _ => hcg.2, fun h => by rw [hpf.2.2.2.2.1] at h; cases h⟩, hpf.2.2.2.1⟩
        · rw [List.filter_append, List.map_append, ← hN]
          simp [hpf.2.2.2.2.1]
      · rw [go_step_const h0 hp] at h
        have hcf := constPart_facts p (paramPos p)
        have hlen : 1 ≤ (constPart p (paramPos p)).1.length := by
          cases hpp : paramPos p with
          | none => show 1 ≤ p.length; omega
          | some n => show 1 ≤ (p.take n).length
                      rw [List.length_take]
                      have : n ≠ 0 := by rintro rfl; exact hp hpp
                      omega
        refine pre_goD k _ _ _ _ _ T U h (by rw [List.length_drop]; omega) (by rw [List.length_drop, List.length_append, List.length_singleton]; omega) (fun x hx => ?_) ?_
        · rcases List.mem_append.1 hx with hm | hm
          · exact hS x hm
          · obtain rfl : x = (constPart p (paramPos p)).2 := by simpa using hm
            refine ⟨⟨by omega, hcf.2.1, by rw [hcf.2.2.1]; simp, by rw [hcf.2.2.2]; simp, fun h => ?_, fun _ => rfl⟩, hcf.2.2.1⟩
            have : (constPart p (paramPos p)).2.isParam = false := rfl
            rw [this] at h; cases h
        · rw [List.filter_append, List.map_append, ← hN]
          have : (constPart p (paramPos p)).2.isParam = false := rfl
          simp [this]
/-- What the parser leaves. -/
theorem parse_goodD {p : Bs} {M : List Seg} {N : List Bs} (h : parse p = some (M, N)) (hl : p.length ≤ 1000000) :
    (∀ x ∈ M, GoodD x) ∧ N = (M.filter (·.isParam)).map (·.name) ∧ N.length ≤ 30 ∧ M.length ≤ 1000000 := by
  unfold parse at h
  cases hg : parseGo p.length p 0 0 [] [] with
  | none => rw [hg] at h; cases h
  | some TU =>
    obtain ⟨T, U⟩ := TU
    rw [hg] at h
    simp only at h
    obtain ⟨h1, h2, h3⟩ := pre_goD _ _ _ _ _ _ T U hg hl (by simpa using hl) (by simp) rfl
    cases hm : metaFwd (cmpBack (markLast T)).1 with
    | none => rw [hm] at h; cases h
    | some l =>
      rw [hm] at h
      simp only at h
      split at h
      · cases h
      · rename_i h30
        cases h
        have hk := mark_keep (L := T) (Q := fun x => PreD x ∧ x.cmp = []) (fun x hx => ⟨hx.1, hx.2⟩) h1
        obtain ⟨b1, b2, b3⟩ := pre_backD _ hk
        obtain ⟨g1, g2, g3⟩ := good_metaD _ _ hm (by rw [cmpBack_length, mark_length]; exact h3) b1
        refine ⟨g1, ?_, by omega, by have h9 := congrArg List.length g2; rw [List.length_map, List.length_map, cmpBack_length, mark_length] at h9; omega⟩
        rw [h2]
        refine (filter_names _ _ ?_ ?_).symm
        · rw [g2, b2]; exact mark_map _ (fun _ => rfl) T
        · rw [g3, b3]; exact mark_map _ (fun _ => rfl) T
end Go.Proofs.YtiebedcldbmlhaaGreatDoor
