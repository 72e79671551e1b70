/-
  Joined: The law FnPatternFills returns true and writes nothing that was there; The law FnPatternFills at a world that is laid as the row lists it.
  Conditions: each law's own.
-/
import Derived.Test.YtiebedcldbmlhaaGreatDoorK38
import Derived.Test.YtiebedcldbmlhaaGreatDoorK41
import Derived.Test.YtiebedcldbmlhaaGreatDoorK42
import Derived.Test.YtiebedcldbmlhaaGreatDoorK37
namespace Go.Proofs.YtiebedcldbmlhaaGreatDoor
open Go.RowKit
set_option linter.unusedVariables false

theorem row_cells {w : World} {base : Nat} {va : Option Addr} {n cap : Nat} {M : List Seg} {zs : List Value} (h : w.ownsRow base 49 11 (.slice va n cap) n (zrowV M zs)) (hl : zs.length = M.length) (hn : n = M.length) (hs : ∀ z ∈ zs, ∃ a n c, z = Value.slice a n c) :
    ∀ (k : Nat) (x : Seg), M[k]? = some x → ∃ gs a n c, va = some ⟨gs, 0, none⟩ ∧ ∀ j u, (zcellsV x (.slice a n c))[j]? = some u → w.cell? ⟨gs, k * 11 + j, none⟩ = some u := by
  intro k x hx
  obtain ⟨hk, _⟩ := List.getElem?_eq_some_iff.1 hx
  obtain ⟨gv, gcap, he, _, _, hcs⟩ := own_cellV h (by omega)
  obtain ⟨z, hz⟩ : ∃ z, zs[k]? = some z := ⟨zs[k]'(by omega), List.getElem?_eq_getElem _⟩
  obtain ⟨a, m, c, rfl⟩ := hs z (List.mem_of_getElem? hz)
  cases he
  exact ⟨gv, a, m, c, rfl, hcs k x _ hx hz⟩
theorem texts_cells {w : World} {base : Nat} {ua : Option Addr} {cap : Nat} {us : List Bs} (h : w.ownsRow base 9 1 (.slice ua us.length cap) us.length (svals us)) :
    us.length ≤ cap ∧ ∀ (k : Nat) (u : Bs), us[k]? = some u → ∃ g, ua = some ⟨g, 0, none⟩ ∧ w.cell? ⟨g, k, none⟩ = some (.string (bs u)) := by
  have hc := fun g hg => h.cells (g := g) hg
  rcases h.2 with ⟨h1, h2⟩ | ⟨g, c2, cur, he, _, _, h3, _⟩
  · have : us = [] := List.length_eq_zero_iff.1 h2
    subst this
    exact ⟨Nat.zero_le _, fun k u hu => by simp at hu⟩
  · cases he
    refine ⟨h3, fun k u hu => ⟨g, rfl, ?_⟩⟩
    have := hc g rfl k (.string (bs u)) (by unfold svals; rw [List.getElem?_map, hu]; rfl)
    rw [add_cell, Nat.zero_add] at this
    exact this
theorem join_const {x : Seg} {R : List Seg} {us : List Bs} (h : x.isParam = false) : joinP (x :: R) us = x.const ++ joinP R us := by
  conv => lhs; unfold joinP
  rw [if_neg (by rw [h]; simp)]
theorem join_param {x : Seg} {R : List Seg} {u : Bs} {us : List Bs} (h : x.isParam = true) : joinP (x :: R) (u :: us) = u ++ joinP R us := by
  conv => lhs; unfold joinP
  rw [if_pos (by rw [h])]
theorem cat_data (a b : ByteArray) : (a ++ b).data.toList = a.data.toList ++ b.data.toList := by simp
theorem slash_ne (p : ByteArray) : p ++ ⟨#[47]⟩ ≠ p := fun e => by
  have h := congrArg (fun x : ByteArray => x.data.toList.length) e
  simp at h

set_option maxHeartbeats 4000000 in
set_option maxRecDepth 100000 in
theorem fills_walk (T : Nat → Nat × Nat) (s p : ByteArray) (w : World) (hE : EnvA T w) (hs : s.size ≤ 140737488351232) (hps : p.size ≤ 140737488351232) :
    Calls Tryz.prog 9 #[.string s, .string p] w fun e w' => e = .returned (.bool true) ∧ Below w.heap.size w w' := by
  have HE := Lib.hid hE
  clear hE
  go_enter Tryz.func9, Tryz.ntmps9
  by_cases h1 : 2147483647 < s.size
  · go_wp2_with fail
    go_ret
    exact ⟨rfl, Below.refl _ _⟩
  by_cases h2 : 2147483647 < p.size
  · go_wp2_with fail
    go_ret
    exact ⟨rfl, Below.refl _ _⟩
  have HM := Lib.hid (matches_all T w HE.out)
  go_wp2_with fail
  refine HM.out.mono ?_
  rintro e w1 ⟨rfl, hb1⟩
  have HB1 := Lib.hid hb1
  have HE1 := Lib.hid (HE.out.below hb1)
  clear hb1
  obtain ⟨v, hv⟩ : ∃ v, v = (decide (s.size ≤ 2000) && decide (p.size ≤ 2000)) := ⟨_, rfl⟩
  have HS := Lib.hid (short_pair s p w1 v hv.symm)
  have HV := Lib.hid hv
  clear hv
  obtain ⟨W2, hW2⟩ : ∃ W2, W2 = w1.alloc (.cells #[.string s, .string p] 9) := ⟨_, rfl⟩
  have hb2 : Below w1.heap.size w1 W2 := by rw [hW2]; exact (Below.refl _ _).alloc (Nat.le_refl _) _
  have HW2 := Lib.hid hW2
  have HB2 := Lib.hid (HB1.out.trans (hb2.mono HB1.out.size))
  have HE2 := Lib.hid (HE1.out.below hb2)
  clear hW2 hb2
  go_wp2_with fail
  refine HS.out.mono ?_
  rintro e w3 ⟨rfl, rfl⟩
  rw [← HW2.out]
  cases v with
  | false =>
    go_wp2_with fail
    go_ret
    exact ⟨rfl, HB2.out⟩
  | true =>
    have hsz : s.size ≤ 2000 ∧ p.size ≤ 2000 := by
      have := HV.out.symm
      simpa using this
    have hsz1 := hsz.1
    have hsz2 := hsz.2
    clear hsz
    have HH := Lib.hid (holds_any s 92 W2 hs)
    go_wp2_with fail
    refine HH.out.mono ?_
    rintro e w3 ⟨rfl, rfl⟩
    cases hhb : holdsB s.data.toList 92 with
    | true =>
      clear hhb
      go_wp2_with fail
      go_ret
      exact ⟨rfl, HB2.out⟩
    | false =>
    clear hhb
    have hseg := segments_all s W2 HE2.out.z (by omega)
    have hval := fun w' (h : EnvA T w') => values_all T s p false w' h (by omega) (by omega)
    rcases hM : parse s.data.toList with _ | ⟨M, N⟩
    · rw [hM] at hseg
      rw [hM] at hval
      have HSEG := Lib.hid hseg
      have HVAL := Lib.hid hval
      clear hseg hval hM
      go_wp2_with fail
      refine HSEG.out.mono ?_
      rintro e w4 ⟨hb4, rfl⟩
      have HB4 := Lib.hid (HB2.out.trans (hb4.mono HB2.out.size))
      have HE4 := Lib.hid (HE2.out.below hb4)
      clear hb4
      have HC2 := Lib.hid (HVAL.out w4 HE4.out)
      go_wp2_with fail
      refine HC2.out.mono ?_
      rintro e w5 ⟨hb5, v, is, ok, rfl, rfl, rfl, rfl⟩
      have HB5 := Lib.hid (HB4.out.trans (hb5.mono HB4.out.size))
      clear hb5
      go_wp2_with fail
      go_ret
      exact ⟨rfl, HB5.out⟩
    rw [hM] at hseg
    rw [hM] at hval
    have hML := (parse_goodD hM (by rw [size_data]; omega)).2.2.2
    have hgood := (parse_goodD hM (by rw [size_data]; omega)).1
    have hfill := fun (us : List Bs) (h : matchGo (chk T) false M p.data.toList [] = some us) => fills_plain hM h
    have HSEG := Lib.hid hseg
    have HVAL := Lib.hid hval
    have HFILL := Lib.hid hfill
    have HGOOD := Lib.hid hgood
    clear hseg hval hM hfill hgood
    go_wp2_with fail
    refine HSEG.out.mono ?_
    rintro e w4 ⟨hb4, v, pv, zs, rfl, hzl, hzs, hv, hpv⟩
    obtain ⟨va, vcap, rfl⟩ := own_form hv
    obtain ⟨pa, pcap, rfl⟩ := own_form hpv
    have HROW := Lib.hid (row_cells hv hzl rfl hzs)
    have HB4 := Lib.hid (HB2.out.trans (hb4.mono HB2.out.size))
    have HE4 := Lib.hid (HE2.out.below hb4)
    clear hb4 hv hpv hzl hzs HSEG
    have HC2 := Lib.hid (HVAL.out w4 HE4.out)
    obtain ⟨m, hm⟩ : ∃ m, m = M.length := ⟨_, rfl⟩
    have HML := Lib.hid hm
    rw [← hm] at hML ⊢
    clear hm
    go_wp2_with fail
    refine HC2.out.mono ?_
    rintro e w5 ⟨hb5, uv, is, ok, rfl, rfl, hm⟩
    have HB5 := Lib.hid (HB4.out.trans (hb5.mono HB4.out.size))
    have HB45 := Lib.hid hb5
    clear hb5 HVAL HC2
    cases hr : matchGo (chk T) false M p.data.toList [] with
    | none =>
      rw [hr] at hm
      obtain ⟨rfl, rfl⟩ := hm
      clear hr
      go_wp2_with fail
      go_ret
      exact ⟨rfl, HB5.out⟩
    | some us =>
    rw [hr] at hm
    obtain ⟨rfl, ho⟩ := hm
    obtain ⟨ua, ucap, rfl⟩ := own_form ho
    obtain ⟨hcap, htx⟩ := texts_cells ho
    have HTX := Lib.hid htx
    obtain ⟨hcnt, hjoin⟩ := HFILL.out us hr
    have HCNT := Lib.hid hcnt
    have HJOIN := Lib.hid hjoin
    have hul : us.length ≤ 1000000 := by rw [hcnt]; have := List.length_filter_le (·.isParam) M; have := HML.out; omega
    obtain ⟨n, hn⟩ : ∃ n, n = us.length := ⟨_, rfl⟩
    have HN := Lib.hid hn
    rw [← hn] at hul hcap ⊢
    clear hr ho htx hcnt hjoin hn HFILL
    go_wp2_with fail
    go_loopw [12, 63] (fun c i wr => ∃ (j q : Nat), j ≤ m ∧ q ≤ j ∧ i = .int .i64 j ∧ c = .int .i64 (q : Nat) ∧ Below w5.heap.size w5 wr) (fun _ i _ => m - (intOf i).toNat)
    case atStart => exact ⟨0, 0, Nat.zero_le _, Nat.le_refl _, rfl, rfl, Below.refl _ _⟩
    case round =>
      obtain ⟨j, q, hj, hq, rfl, rfl, hb6⟩ := hrel
      have HB6 := Lib.hid hb6
      by_cases hjt : j < m
      · obtain ⟨x, hx⟩ : ∃ x, M[j]? = some x := ⟨M[j]'(by have := HML.out; omega), List.getElem?_eq_getElem _⟩
        obtain ⟨gs, za, zn, zc, rfl, hcs⟩ := HROW.out j x hx
        have hcx : ∀ i u, (zcellsV x (.slice za zn zc))[i]? = some u → wr.cell? ⟨gs, j * 11 + i, none⟩ = some u := fun i u hu => by
          have h1 := hcs i u hu
          have h2 := (HB45.out.cell (p := ⟨gs, j * 11 + i, none⟩) (cell_lt h1)).trans h1
          exact (hb6.cell (p := ⟨gs, j * 11 + i, none⟩) (cell_lt h2)).trans h2
        obtain ⟨v0, e0⟩ : ∃ v, v = bs x.const := ⟨_, rfl⟩
        obtain ⟨v1, e1⟩ : ∃ v, v = bs x.name := ⟨_, rfl⟩
        obtain ⟨v2, e2⟩ : ∃ v, v = bs x.cmp := ⟨_, rfl⟩
        obtain ⟨b3, e3⟩ : ∃ v, v = x.isParam := ⟨_, rfl⟩
        obtain ⟨b4, e4⟩ : ∃ v, v = x.greedy := ⟨_, rfl⟩
        obtain ⟨b5, e5⟩ : ∃ v, v = x.optional := ⟨_, rfl⟩
        obtain ⟨b6, e6⟩ : ∃ v, v = x.optSlash := ⟨_, rfl⟩
        obtain ⟨b7, e7⟩ : ∃ v, v = x.last := ⟨_, rfl⟩
        obtain ⟨p8, e8⟩ : ∃ v, v = x.partCount := ⟨_, rfl⟩
        obtain ⟨p9, e9⟩ : ∃ v, v = x.length := ⟨_, rfl⟩
        have hz : zcellsV x (.slice za zn zc) = [Value.string v0, Value.string v1, Value.string v2, Value.bool b3, Value.bool b4, Value.bool b5, Value.bool b6, Value.bool b7, Value.int IntKind.i64 p8, Value.int IntKind.i64 p9, Value.slice za zn zc] := by rw [e0, e1, e2, e3, e4, e5, e6, e7, e8, e9]; rfl
        rw [hz] at hcx
        have d0 : wr.cell? ⟨gs, j * 11, none⟩ = _ := hcx 0 _ rfl
        have d1 := hcx 1 _ rfl
        have d2 := hcx 2 _ rfl
        have d3 := hcx 3 _ rfl
        have d4 := hcx 4 _ rfl
        have d5 := hcx 5 _ rfl
        have d6 := hcx 6 _ rfl
        have d7 := hcx 7 _ rfl
        have d8 := hcx 8 _ rfl
        have d9 := hcx 9 _ rfl
        have d10 := hcx 10 _ rfl
        clear e0 e1 e2 e3 e4 e5 e6 e7 e8 e9 hz hx hcx hcs hb6
        cases b4 with
        | false =>
          go_wp2_with fail
          go_roundw
          case rel => exact ⟨j + 1, q, by omega, by omega, by go_num, rfl, HB6.out.alloc (by have := HB6.out.size; omega) _⟩
          case measure => simp [intOf]; omega
        | true =>
          go_wp2_with fail
          go_roundw
          case rel => exact ⟨j + 1, q + 1, by omega, by omega, by go_num, by go_num, HB6.out.alloc (by have := HB6.out.size; omega) _⟩
          case measure => simp [intOf]; omega
      · obtain rfl : j = m := by omega
        obtain ⟨w6, hw6⟩ : ∃ w6, w6 = wr := ⟨_, rfl⟩
        rw [← hw6] at HB6 hb6 ⊢
        have HB56 := Lib.hid hb6
        have HT6 := Lib.hid (show ∀ (k : Nat) (u : Bs), us[k]? = some u → ∃ g, ua = some ⟨g, 0, none⟩ ∧ w6.cell? ⟨g, k, none⟩ = some (.string (bs u)) from fun k u hu => by
          obtain ⟨g, h1, h2⟩ := HTX.out k u hu
          exact ⟨g, h1, (hb6.cell (p := ⟨g, k, none⟩) (cell_lt h2)).trans h2⟩)
        have HBW6 := Lib.hid (HB5.out.trans (hb6.mono HB5.out.size))
        clear hw6 hb6
        go_wp2_with fail
        go_loopw [74] (fun i wx => ∃ k : Nat, k ≤ n ∧ i = .int .i64 k ∧ (∀ (l : Nat) (u : Bs), l < k → us[l]? = some u → u ≠ []) ∧ w6 = wx) (fun i _ => n - (intOf i).toNat)
        case atStart => exact ⟨0, Nat.zero_le _, rfl, fun l u h => absurd h (Nat.not_lt_zero _), rfl⟩
        case round =>
          obtain ⟨k, hk, rfl, hne, rfl⟩ := hrel
          have HNE := Lib.hid hne
          clear hne
          by_cases hkn : k < n
          · obtain ⟨u, hu⟩ : ∃ u, us[k]? = some u := ⟨us[k]'(by have := HN.out; omega), List.getElem?_eq_getElem _⟩
            obtain ⟨g, rfl, hcu⟩ := HT6.out k u hu
            have HU := Lib.hid hu
            by_cases hu0 : u = []
            · subst hu0
              have hcu0 : w6.cell? ⟨g, k, none⟩ = some (.string ByteArray.empty) := hcu
              clear hu hcu
              go_wp2_with fail
              go_ret
              exact ⟨rfl, HBW6.out⟩
            · obtain ⟨ub, hub⟩ : ∃ ub, ub = bs u := ⟨_, rfl⟩
              rw [← hub] at hcu
              have hem : ub.toList.isEmpty = false := by rw [hub, Lib.toList_data, bs_data, Bool.eq_false_iff]; intro h5; exact hu0 (List.isEmpty_iff.1 h5)
              have hem2 : decide (ub = ByteArray.empty) = false := by
                rw [decide_eq_false_iff_not]
                intro e
                rw [hub] at e
                have := congrArg (fun x : ByteArray => x.data.toList) e
                simp only at this
                exact hu0 this
              have HU0 := Lib.hid hu0
              clear hub hu hu0
              by_cases hq1 : 1 < q
              · go_wp2_with fail
                go_ret
                exact ⟨rfl, HBW6.out⟩
              · go_wp2_with fail
                go_roundw
                case rel => exact ⟨k + 1, by omega, by go_num, fun l u' hl hu' => by
                  rcases Nat.lt_or_ge l k with h | h
                  · exact HNE.out l u' h hu'
                  · obtain rfl : l = k := by omega
                    rw [HU.out] at hu'
                    cases hu'
                    exact HU0.out, trivial⟩
                case measure => simp [intOf]; omega
          · obtain rfl : k = n := by omega
            have hjn := HJOIN.out (fun u hu => by
              obtain ⟨l, hl⟩ := List.getElem?_of_mem hu
              exact HNE.out l u (by have := (List.getElem?_eq_some_iff.1 hl).1; have := HN.out; omega) hl)
            have HJN := Lib.hid hjn
            obtain ⟨J, hJ⟩ : ∃ J, J = joinP M us := ⟨_, rfl⟩
            have HJ := Lib.hid hJ
            rw [← hJ] at HJN
            have hJl : J.length ≤ 2001 := by
              rcases HJN.out with e | e
              · rw [e, size_data]; omega
              · rw [e, List.length_append, size_data]; simp; omega
            clear hJ hjn HNE HJOIN
            go_wp2_with fail
            go_loopw [8, 11, 87] (fun c t i wx => ∃ (l r : Nat) (tb : ByteArray) (a : Option Addr) (cap : Nat), l ≤ j ∧ r ≤ k ∧ i = .int .i64 l ∧ t = .string tb ∧ c = .slice a (k - r) cap ∧ k - r ≤ cap ∧ (∀ g, ua = some ⟨g, 0, none⟩ → r < k → a = some ⟨g, r, none⟩) ∧
              tb.data.toList ++ joinP (M.drop l) (us.drop r) = J ∧ k - r = ((M.drop l).filter (·.isParam)).length ∧ Below w6.heap.size w6 wx) (fun _ _ i _ => j - (intOf i).toNat)
            case atStart => exact ⟨0, 0, _, ua, ucap, Nat.zero_le _, Nat.zero_le _, rfl, rfl, rfl, hcap, fun g h _ => h, by rw [HJ.out]; rfl, by rw [HN.out, HCNT.out]; rfl, Below.refl _ _⟩
            case round =>
              obtain ⟨l, r, tb, a, cap, hl, hrk, rfl, rfl, rfl, hcp, hag, htj, hfl, hb7⟩ := hrel
              have HAG := Lib.hid hag
              have HTJ := Lib.hid htj
              have HFL := Lib.hid hfl
              have HB7 := Lib.hid hb7
              have htl : tb.size ≤ 2001 := by
                have h := congrArg List.length htj
                rw [List.length_append, size_data] at h
                omega
              clear hag htj hfl
              by_cases hlj : l < j
              · obtain ⟨x, hx⟩ : ∃ x, M[l]? = some x := ⟨M[l]'(by have := HML.out; omega), List.getElem?_eq_getElem _⟩
                have hdrop : M.drop l = x :: M.drop (l + 1) := by
                  obtain ⟨h1, rfl⟩ := List.getElem?_eq_some_iff.1 hx
                  exact List.drop_eq_getElem_cons h1
                have HDR := Lib.hid hdrop
                have hcl := (HGOOD.out x (List.mem_of_getElem? hx)).const
                obtain ⟨gs, za, zn, zc, rfl, hcs⟩ := HROW.out l x hx
                have hcx : ∀ i u, (zcellsV x (.slice za zn zc))[i]? = some u → wr.cell? ⟨gs, l * 11 + i, none⟩ = some u := fun i u hu => by
                  have h1 := hcs i u hu
                  have h2 := (HB45.out.cell (p := ⟨gs, l * 11 + i, none⟩) (cell_lt h1)).trans h1
                  have h3 := (HB56.out.cell (p := ⟨gs, l * 11 + i, none⟩) (cell_lt h2)).trans h2
                  exact (hb7.cell (p := ⟨gs, l * 11 + i, none⟩) (cell_lt h3)).trans h3
                obtain ⟨v0, e0⟩ : ∃ v, v = bs x.const := ⟨_, rfl⟩
                obtain ⟨v1, e1⟩ : ∃ v, v = bs x.name := ⟨_, rfl⟩
                obtain ⟨v2, e2⟩ : ∃ v, v = bs x.cmp := ⟨_, rfl⟩
                obtain ⟨b3, e3⟩ : ∃ v, v = x.isParam := ⟨_, rfl⟩
                obtain ⟨b4, e4⟩ : ∃ v, v = x.greedy := ⟨_, rfl⟩
                obtain ⟨b5, e5⟩ : ∃ v, v = x.optional := ⟨_, rfl⟩
                obtain ⟨b6, e6⟩ : ∃ v, v = x.optSlash := ⟨_, rfl⟩
                obtain ⟨b7, e7⟩ : ∃ v, v = x.last := ⟨_, rfl⟩
                obtain ⟨p8, e8⟩ : ∃ v, v = x.partCount := ⟨_, rfl⟩
                obtain ⟨p9, e9⟩ : ∃ v, v = x.length := ⟨_, rfl⟩
                have hz : zcellsV x (.slice za zn zc) = [Value.string v0, Value.string v1, Value.string v2, Value.bool b3, Value.bool b4, Value.bool b5, Value.bool b6, Value.bool b7, Value.int IntKind.i64 p8, Value.int IntKind.i64 p9, Value.slice za zn zc] := by rw [e0, e1, e2, e3, e4, e5, e6, e7, e8, e9]; rfl
                rw [hz] at hcx
                have d0 : wr.cell? ⟨gs, l * 11, none⟩ = _ := hcx 0 _ rfl
                have d1 := hcx 1 _ rfl
                have d2 := hcx 2 _ rfl
                have d3 := hcx 3 _ rfl
                have d4 := hcx 4 _ rfl
                have d5 := hcx 5 _ rfl
                have d6 := hcx 6 _ rfl
                have d7 := hcx 7 _ rfl
                have d8 := hcx 8 _ rfl
                have d9 := hcx 9 _ rfl
                have d10 := hcx 10 _ rfl
                have hv0 : v0.size ≤ 1000000 := by rw [e0, bs_size]; exact hcl
                have HE0 := Lib.hid e0
                have HE3 := Lib.hid e3
                clear e0 e1 e2 e3 e4 e5 e6 e7 e8 e9 hz hx hcx hcs hb7 hdrop hcl
                cases b3 with
                | false =>
                  have hJ2 : (tb ++ v0).data.toList ++ joinP (M.drop (l + 1)) (us.drop r) = J := by
                    have h := HTJ.out
                    rw [HDR.out, join_const HE3.out.symm] at h
                    rw [cat_data, HE0.out, bs_data, List.append_assoc]
                    exact h
                  have hF2 : k - r = ((M.drop (l + 1)).filter (·.isParam)).length := by
                    have h := HFL.out
                    rw [HDR.out, List.filter_cons_of_neg (by rw [← HE3.out]; simp)] at h
                    exact h
                  have HJ2 := Lib.hid hJ2
                  have HF2 := Lib.hid hF2
                  clear hJ2 hF2
                  go_wp2_with fail
                  go_roundw
                  case rel => exact ⟨l + 1, r, _, _, _, by omega, hrk, by go_num, rfl, rfl, hcp, HAG.out, HJ2.out, HF2.out, HB7.out.alloc (by have := HB7.out.size; omega) _⟩
                  case measure => simp [intOf]; omega
                | true =>
                  have hrk2 : r < k := by
                    have h := HFL.out
                    rw [HDR.out, List.filter_cons_of_pos (by rw [← HE3.out]), List.length_cons] at h
                    omega
                  obtain ⟨u, hu⟩ : ∃ u, us[r]? = some u := ⟨us[r]'(by have := HN.out; omega), List.getElem?_eq_getElem _⟩
                  obtain ⟨g, hua, hcu⟩ := HT6.out r u hu
                  have hau := HAG.out g hua hrk2
                  have hcu2 := (HB7.out.cell (p := ⟨g, r, none⟩) (cell_lt hcu)).trans hcu
                  have hdu : us.drop r = u :: us.drop (r + 1) := by
                    obtain ⟨h1, rfl⟩ := List.getElem?_eq_some_iff.1 hu
                    exact List.drop_eq_getElem_cons h1
                  obtain ⟨ub, hub⟩ : ∃ ub, ub = bs u := ⟨_, rfl⟩
                  rw [← hub] at hcu2
                  have hcu3 : ∀ o, (wr.alloc o).cell? ⟨g, r, none⟩ = some (.string ub) := fun o => by rw [cell_alloc, if_neg (by have := cell_lt hcu2; simp at this; show ¬ g = wr.heap.size; omega)]; exact hcu2
                  have hJ2 : (tb ++ ub).data.toList ++ joinP (M.drop (l + 1)) (us.drop (r + 1)) = J := by
                    have h := HTJ.out
                    rw [HDR.out, hdu, join_param HE3.out.symm] at h
                    rw [cat_data, hub, bs_data, List.append_assoc]
                    exact h
                  have hF2 : k - (r + 1) = ((M.drop (l + 1)).filter (·.isParam)).length := by
                    have h := HFL.out
                    rw [HDR.out, List.filter_cons_of_pos (by rw [← HE3.out]), List.length_cons] at h
                    omega
                  have hubl : ub.size ≤ 2001 := by
                    have h := congrArg List.length hJ2
                    rw [cat_data, List.length_append, List.length_append, size_data, size_data] at h
                    omega
                  have HJ2 := Lib.hid hJ2
                  have HF2 := Lib.hid hF2
                  have HUA := Lib.hid hua
                  subst hau
                  obtain ⟨kr, hkr⟩ : ∃ kr, kr = k - r := ⟨_, rfl⟩
                  have hkr0 : 0 < kr := by omega
                  have hkz : decide (kr = 0) = false := decide_eq_false (by omega)
                  have hkz2 : ((kr : Int) == 0) = false := by rw [beq_eq_false_iff_ne]; omega
                  rw [← hkr] at hcp ⊢
                  have HKR := Lib.hid hkr
                  clear hJ2 hF2 hu hua hcu hdu hub hkr
                  go_wp2_with fail
                  go_roundw
                  case rel =>
                    refine ⟨l + 1, r + 1, _, _, _, by omega, by omega, by go_num, rfl, by rw [show k - (r + 1) = kr - 1 by have := HKR.out; omega], by have := HKR.out; omega, fun g' hg' hlt => ?_, HJ2.out, HF2.out, HB7.out.alloc (by have := HB7.out.size; omega) _⟩
                    have hgg : g' = g := by have := HUA.out.symm.trans hg'; simpa using this.symm
                    subst hgg
                    have := HKR.out
                    rw [if_neg (by omega)]
                  case measure => simp [intOf]; omega
              · obtain rfl : l = j := by omega
                have hd : M.drop l = [] := List.drop_of_length_le (by have := HML.out; omega)
                have hk0 : k - r = 0 := by have h := HFL.out; rw [hd] at h; exact h
                have htb : tb.data.toList = J := by
                  have h := HTJ.out
                  rw [hd] at h
                  have h2 : joinP [] (us.drop r) = [] := by unfold joinP; rfl
                  rw [h2, List.append_nil] at h
                  exact h
                have hto : tb = p ∨ tb = p ++ ⟨#[47]⟩ := by
                  rcases HJN.out with e | e
                  · left; rw [bytes_ext, htb, e]
                  · right; rw [bytes_ext, htb, e, cat_data]
                have HBE := Lib.hid (HBW6.out.trans (hb7.mono HBW6.out.size))
                rw [hk0]
                clear hd hk0 htb hb7 HJN HTJ
                rcases hto with e | e
                · subst e
                  go_wp2_with fail
                  go_ret
                  exact ⟨rfl, HBE.out⟩
                · subst e
                  have hne := slash_ne p
                  have hne2 : decide (p ++ (⟨#[47]⟩ : ByteArray) = p) = false := decide_eq_false hne
                  go_wp2_with fail
                  all_goals
                    go_ret
                    exact ⟨rfl, HBE.out⟩
end Go.Proofs.YtiebedcldbmlhaaGreatDoor
namespace Go.Proofs.YtiebedcldbmlhaaGreatDoor
open Go.RowKit
theorem fills_laid (s p : ByteArray) (W : World) (h : laidMetH Tryz.prog laidAll W) (hs : s.size ≤ 140737488351232) (hp : p.size ≤ 140737488351232) :
    Calls Tryz.prog 9 #[.string s, .string p] W fun e w' => e = .returned (.bool true) ∧ Below W.heap.size W w' :=
  fills_walk Fl.pTab s p W (envA_of_laid h) hs hp
end Go.Proofs.YtiebedcldbmlhaaGreatDoor
