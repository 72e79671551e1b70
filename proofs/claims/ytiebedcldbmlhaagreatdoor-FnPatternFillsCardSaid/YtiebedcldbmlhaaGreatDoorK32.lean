/-
  Joined: addParameterMetaInfo, of any segments that lie in memory, also of those at which it panics.
  Conditions: each law's own.
-/
import Derived.Test.YtiebedcldbmlhaaGreatDoorK30
import Derived.Test.YtiebedcldbmlhaaGreatDoorK26
import Derived.Test.YtiebedcldbmlhaaGreatDoorK23
namespace Go.Proofs.YtiebedcldbmlhaaGreatDoor
open Go.RowKit
set_option linter.unusedVariables false

set_option maxHeartbeats 4000000 in
set_option maxRecDepth 100000 in
theorem meta_all (L : List Seg) (gs : List Nat) (cvs : List Value) (r cap : Nat) (w : World) (hn : gs.Nodup) (hr : r ∉ gs) (hl : 0 < L.length) (hsz : L.length ≤ 1000000)
    (hrow : ∀ (i : Nat) (g : Nat), gs[i]? = some g → w.cell? ⟨r, i, none⟩ = some (.pointer (some ⟨g, 0, none⟩)))
    (hin : SegsIn w gs L cvs) (hcl : ∀ x ∈ L, x.const.length ≤ 1000000 ∧ x.partCount = 0 ∧ x.cmp = []) :
    Calls Tryz.prog 55 #[.slice (some ⟨r, 0, none⟩) L.length cap] w (MetaEnd gs cvs r L.length cap (metaFwd (cmpBack L).1) w) := by
  obtain ⟨O, hO⟩ : ∃ O, O = metaFwd (cmpBack L).1 := ⟨_, rfl⟩
  rw [← hO]
  have HIN := Lib.hid hin
  have HROW := Lib.hid hrow
  have hgl := Lib.hid (show gs.length = L.length from hin.1)
  have hcvl := Lib.hid hin.2.1
  clear hin hrow
  go_enter Tryz.func55, Tryz.ntmps55
  go_wp2_with fail
  go_loopw [3, 5] (fun c i wr => ∃ k : Nat, k ≤ L.length ∧ i = .int .i64 ((k : Int) - 1) ∧ c = .string (bs (cmpBack (L.drop k)).2) ∧ SegsIn wr gs (backAt L k) cvs ∧ Touch gs w wr) (fun _ i _ => (intOf i + 1).toNat)
  case atStart =>
    refine ⟨L.length, Nat.le_refl _, by go_num, by rw [List.drop_length]; rfl, ?_, Touch.refl _ _⟩
    unfold backAt
    rw [List.drop_length, List.take_length]
    simpa [cmpBack] using HIN.out
  case round =>
    obtain ⟨k, hk, rfl, rfl, hin, ht⟩ := hrel
    have HI := Lib.hid hin
    have HT := Lib.hid ht
    clear hin ht
    cases k with
    | zero =>
      have hC := cmpBack_facts L hcl
      obtain ⟨C, hCe⟩ : ∃ C, C = (cmpBack L).1 := ⟨_, rfl⟩
      have hCl : L.length = C.length := by rw [hCe, cmpBack_length]
      have hin0 : SegsIn wr gs C cvs := by have := HI.out; unfold backAt at this; simpa [← hCe] using this
      rw [← hCe] at hO hC
      have HI0 := Lib.hid hin0
      have HM := Lib.hid hO
      have HCC := Lib.hid hC
      obtain ⟨n, hn'⟩ : ∃ n, n = L.length := ⟨_, rfl⟩
      have HN := Lib.hid (hn'.trans hCl)
      have HNL := Lib.hid hn'
      rw [← hn'] at hl hsz ⊢
      clear hin0 hO hC hCe hCl HI hcl hn' HIN
      go_wp2_with fail
      go_loopw [6] (fun i w2 => ∃ (k : Nat) (D : List Seg), k ≤ n ∧ i = .int .i64 k ∧ D.length = k ∧ O = (metaFwd (C.drop k)).map (fun T => D ++ T) ∧ SegsIn w2 gs (D ++ C.drop k) cvs ∧ Touch gs w w2) (fun i _ => n - (intOf i).toNat)
      case atStart => exact ⟨0, [], Nat.zero_le _, rfl, rfl, by rw [HM.out]; simp, HI0.out, HT.out⟩
      case round =>
        obtain ⟨k, D, hk, rfl, hD, hT, hin, ht⟩ := hrel
        have HD := Lib.hid hD
        have HTT := Lib.hid hT
        have HI := Lib.hid hin
        have HTo := Lib.hid ht
        clear hD hT hin ht
        by_cases hlt : k < n
        · obtain ⟨x, hx⟩ : ∃ x, C[k]? = some x := ⟨C[k]'(by have := HN.out; omega), List.getElem?_eq_getElem (by have := HN.out; omega)⟩
          have hxm := HCC.out x (List.mem_of_getElem? hx)
          have hds := drop_step hx
          have hgx : (D ++ C.drop k)[k]? = some x := by rw [hds, List.getElem?_append_right (by rw [HD.out]; omega), HD.out]; simp
          obtain ⟨g, cv, hg, hcv, ho⟩ := HI.out.2.2 k x hgx
          have hT := HTT.out
          rw [hds] at hT
          have HX := Lib.hid hx
          have HG := Lib.hid hg
          have HC := Lib.hid hcv
          have HO := Lib.hid ho
          have HGX := Lib.hid hgx
          have HDS := Lib.hid hds
          have HTX := Lib.hid hT
          have cr := touch_cell HTo.out hr (HROW.out k g hg)
          have c1 := ho.cell 1 _ rfl
          have hgm := List.mem_of_getElem? hg
          clear hx hg hcv ho hgx hds hT HTT
          cases hp : x.isParam with
          | true =>
            rw [hp] at c1
            have hTe := HTX.out
            rw [mfo_param hp] at hTe
            have c5 := HO.out.cell 5 _ rfl
            have c10 := HO.out.cell 10 _ rfl
            have f10 := HO.out.frozen 10
            have HTe := Lib.hid hTe
            have HPP := Lib.hid hp
            have HXM := Lib.hid hxm
            clear hTe hp hxm
            have e5 : IntKind.i64.wrap ((k : Int) + 1) = (k : Int) + 1 := IntWalk.i64_in _ (by omega)
            have e6 : (0 : Int) ≤ (k : Int) + 1 := by omega
            have e7 : ((k : Int) + 1).toNat = k + 1 := by omega
            go_upto_region 15 with fail
            go_cut [89] from 55 to 88 (fun v wx => v = .bool (lenB x (C.drop (k + 1))) ∧ wr = wx)
            case first =>
              by_cases hk1 : k + 1 < n
              · have hkb : decide ((k : Int) + 1 < (n : Int)) = true := decide_eq_true (by omega)
                obtain ⟨z, hz⟩ : ∃ z, C[k + 1]? = some z := ⟨C[k + 1]'(by have := HN.out; omega), List.getElem?_eq_getElem (by have := HN.out; omega)⟩
                have hzg : (D ++ C.drop k)[k + 1]? = some z := by rw [List.getElem?_append_right (by rw [HD.out]; omega), HD.out, List.getElem?_drop, show k + (k + 1 - k) = k + 1 by omega]; exact hz
                obtain ⟨g1, cv1, hg1, hcv1, ho1⟩ := HI.out.2.2 (k + 1) z hzg
                have cr1 := touch_cell HTo.out hr (HROW.out (k + 1) g1 hg1)
                have z1 := ho1.cell 1 _ rfl
                have z5 := ho1.cell 5 _ rfl
                have HH := Lib.hid (show lenB x (C.drop (k + 1)) = (!x.greedy && z.isParam && !z.greedy) by rw [drop_step hz]; rfl)
                clear hz hzg hg1 hcv1 ho1
                cases hxg : x.greedy <;> cases hzp : z.isParam <;> cases hzgr : z.greedy
                all_goals
                  have HA := Lib.hid hxg
                  have HB2 := Lib.hid hzp
                  have HC2 := Lib.hid hzgr
                  rw [hxg] at c5
                  rw [hzp] at z1
                  rw [hzgr] at z5
                  clear hxg hzp hzgr
                  go_wp2
                  go_meet
                  case rel => exact ⟨by rw [HH.out, HA.out, HB2.out, HC2.out]; rfl, rfl⟩
              · have hkb : decide ((k : Int) + 1 < (n : Int)) = false := decide_eq_false (by omega)
                have HH := Lib.hid (show lenB x (C.drop (k + 1)) = false by rw [List.drop_of_length_le (by have := HN.out; omega)]; rfl)
                go_wp2
                go_meet
                case rel => exact ⟨by rw [HH.out], rfl⟩
            case rest =>
            obtain ⟨rfl, rfl⟩ := hcut
            go_upto_if 89 with fail
            go_cut [] from 55 to 95 (fun wx => SegsIn wx gs (D ++ { x with length := lenOf x (C.drop (k + 1)) } :: C.drop (k + 1)) cvs ∧ Touch gs w wx)
            case first =>
              cases hB : lenB x (C.drop (k + 1)) with
              | true =>
                have HS2 := Lib.hid (show SegsIn (wr.setCell ⟨g, 10, none⟩ (.int .i64 1)) gs (D ++ { x with length := lenOf x (C.drop (k + 1)) } :: C.drop (k + 1)) cvs by
                  have := HI.out.set hn (f := 10) (x' := { x with length := 1 }) (.int .i64 1) HGX.out HG.out HC.out rfl
                  rw [HDS.out, mid_set HD.out, ← mid_same] at this
                  unfold lenOf
                  rw [hB]
                  exact this)
                have HTo2 := Lib.hid (HTo.out.trans (touch_set (i := 10) (.int .i64 1) hgm))
                clear hB
                go_wp2
                go_meet
                case rel => exact ⟨HS2.out, HTo2.out⟩
              | false =>
                have HS1 := Lib.hid (show SegsIn wr gs (D ++ { x with length := lenOf x (C.drop (k + 1)) } :: C.drop (k + 1)) cvs by
                  unfold lenOf
                  rw [hB]
                  have := HI.out
                  rw [HDS.out] at this
                  exact this)
                clear hB
                go_wp2
                go_meet
                case rel => exact ⟨HS1.out, HTo.out⟩
            case rest =>
            obtain ⟨hs1, ht1⟩ := hcut
            have hx1 : (D ++ { x with length := lenOf x (C.drop (k + 1)) } :: C.drop (k + 1))[k]? = some { x with length := lenOf x (C.drop (k + 1)) } := by rw [List.getElem?_append_right (by rw [HD.out]; omega), HD.out]; simp
            obtain ⟨g', cv', hg', hcv', ho1⟩ := hs1.2.2 k _ hx1
            obtain rfl : g' = g := by rw [HG.out] at hg'; exact (Option.some.inj hg').symm
            obtain rfl : cv' = cv := by rw [HC.out] at hcv'; exact (Option.some.inj hcv').symm
            have cr1 := touch_cell ht1 hr (HROW.out k g' HG.out)
            have c3 := ho1.cell 3 _ rfl
            have HS1 := Lib.hid hs1
            have HT1 := Lib.hid ht1
            have HX1 := Lib.hid hx1
            have HO1 := Lib.hid ho1
            clear hs1 ht1 hx1 hg' hcv' ho1 cr c1 c5 c10 f10
            simp only at c3
            obtain ⟨t, ht⟩ : ∃ t, t = bs x.cmp := ⟨_, rfl⟩
            have htd := Lib.hid (show x.cmp = t.data.toList by rw [ht, bs_data])
            have hts : t.size ≤ 1000000 := by rw [ht]; exact HXM.out.2.2
            rw [← ht] at c3
            clear ht
            go_upto_if 103 with fail
            go_wp2_with fail
            · have hem : t.toList.isEmpty = true := by assumption
              have HEM := Lib.hid (show x.cmp = [] by rw [htd.out, ← Lib.toList_data]; exact List.isEmpty_iff.1 hem)
              go_roundw
              case rel => exact ⟨k + 1, D ++ [{ x with length := lenOf x (C.drop (k + 1)) }], by omega, by go_num, by simp [HD.out], by have h9 := HTe.out; rw [if_pos HEM.out] at h9; exact mo_step h9, by rw [← mid_same]; exact HS1.out, HT1.out⟩
              case measure => simp [intOf]; omega
            · have hem : t.toList.isEmpty = false := by assumption
              have HEM := Lib.hid (show ¬ x.cmp = [] by rw [htd.out, ← Lib.toList_data]; intro h; rw [h] at hem; cases hem)
              have h0 : x.partCount = 0 := HXM.out.2.1
              have HS0 := Lib.hid (show SegsIn wc gs (D ++ { x with length := lenOf x (C.drop (k + 1)), partCount := ((C.drop (k + 1)).take (k + 1 - (k + 1))).foldl (addC x.cmp) x.partCount } :: C.drop (k + 1)) cvs by rw [Nat.sub_self]; exact HS1.out)
              clear HS1 HX1 HO1 cr1 c3 h0
              go_loopw [7] (fun j wi => ∃ m : Nat, k + 1 ≤ m ∧ m ≤ n ∧ j = .int .i64 m ∧ SegsIn wi gs (D ++ { x with length := lenOf x (C.drop (k + 1)), partCount := ((C.drop (k + 1)).take (m - (k + 1))).foldl (addC x.cmp) x.partCount } :: C.drop (k + 1)) cvs ∧ Touch gs w wi) (fun j _ => n - (intOf j).toNat)
              case atStart => exact ⟨k + 1, Nat.le_refl _, by omega, by go_num, HS0.out, HT1.out⟩
              case round =>
                obtain ⟨m, hm1, hm2, rfl, hs1, ht1⟩ := hrel
                have HS1 := Lib.hid hs1
                have HT2 := Lib.hid ht1
                clear hs1 ht1
                by_cases hmn : m < n
                · obtain ⟨z, hz⟩ : ∃ z, C[m]? = some z := ⟨C[m]'(by have := HN.out; omega), List.getElem?_eq_getElem (by have := HN.out; omega)⟩
                  have hzc := (HCC.out z (List.mem_of_getElem? hz)).1
                  have hzr : (C.drop (k + 1))[m - (k + 1)]? = some z := by rw [List.getElem?_drop, show k + 1 + (m - (k + 1)) = m by omega]; exact hz
                  obtain ⟨pc, hpc⟩ : ∃ pc, pc = ((C.drop (k + 1)).take (m - (k + 1))).foldl (addC x.cmp) x.partCount := ⟨_, rfl⟩
                  have hst : ((C.drop (k + 1)).take (m + 1 - (k + 1))).foldl (addC x.cmp) x.partCount = addC x.cmp pc z := by
                    rw [show m + 1 - (k + 1) = (m - (k + 1)) + 1 by omega, take_step hzr, List.foldl_append, ← hpc]; rfl
                  have hpb := addC_fold x.cmp ((C.drop (k + 1)).take (m - (k + 1))) (fun y hy => (HCC.out y (List.mem_of_mem_drop (List.mem_of_mem_take hy))).1) x.partCount HXM.out.2.1
                  rw [← hpc, List.length_take] at hpb
                  rw [← hpc] at HS1
                  have hpb1 : 0 ≤ pc := hpb.1
                  have hpb2 : pc ≤ 1000001000000000 := by
                    have h1 : (min (m - (k + 1)) (C.drop (k + 1)).length) ≤ 1000000 := by omega
                    have h2 := hpb.2
                    omega
                  clear hpb
                  have hzg : (D ++ { x with length := lenOf x (C.drop (k + 1)), partCount := pc } :: C.drop (k + 1))[m]? = some z := by
                    rw [List.getElem?_append_right (by rw [HD.out]; omega), HD.out, show m - k = (m - (k + 1)) + 1 by omega, List.getElem?_cons_succ]; exact hzr
                  have hxg : (D ++ { x with length := lenOf x (C.drop (k + 1)), partCount := pc } :: C.drop (k + 1))[k]? = some { x with length := lenOf x (C.drop (k + 1)), partCount := pc } := by
                    rw [List.getElem?_append_right (by rw [HD.out]; omega), HD.out]; simp
                  obtain ⟨g1, cv1, hg1, hcv1, ho1⟩ := HS1.out.2.2 m z hzg
                  obtain ⟨g2, cv2, hg2, hcv2, ho2⟩ := HS1.out.2.2 k _ hxg
                  obtain rfl : g2 = g' := by rw [HG.out] at hg2; exact (Option.some.inj hg2).symm
                  obtain rfl : cv2 = cv' := by rw [HC.out] at hcv2; exact (Option.some.inj hcv2).symm
                  have cr1 := touch_cell HT2.out hr (HROW.out k g2 HG.out)
                  have cr2 := touch_cell HT2.out hr (HROW.out m g1 hg1)
                  have z1 := ho1.cell 1 _ rfl
                  have HST := Lib.hid hst
                  have HXG := Lib.hid hxg
                  have HO1 := Lib.hid ho1
                  have HO2 := Lib.hid ho2
                  clear hz hzr hpc hst hzg hxg hg1 hg2 hcv1 hcv2 ho1 ho2
                  cases hzp : z.isParam with
                  | true =>
                    rw [hzp] at z1
                    have HP2 := Lib.hid (HST.out.trans (show addC x.cmp pc z = pc by unfold addC; rw [if_pos hzp]))
                    clear hzp
                    go_wp2
                    go_roundw
                    case rel => exact ⟨m + 1, by omega, by omega, by go_num, by rw [HP2.out]; exact HS1.out, HT2.out⟩
                    case measure => simp [intOf]; omega
                  | false =>
                    rw [hzp] at z1
                    have hcs := countS_le (bs z.const) x.cmp
                    rw [bs_data, bs_size] at hcs
                    have HP2 := Lib.hid (HST.out.trans (show addC x.cmp pc z = pc + countS z.const x.cmp by unfold addC; rw [if_neg (by rw [hzp]; simp)]))
                    have z0 := HO1.out.cell 0 _ rfl
                    have c3 := HO2.out.cell 3 _ rfl
                    have c4 := HO2.out.cell 4 _ rfl
                    have f4 := HO2.out.frozen 4
                    simp only at c3 c4
                    clear hzp
                    have e8 : IntKind.i64.wrap (pc + (countS z.const x.cmp : Int)) = pc + (countS z.const x.cmp : Int) := IntWalk.i64_in _ (by omega)
                    go_upto_region 22 with fail
                    have n1 : (⟨r, k, none⟩ : Addr) ≠ ⟨g2, 4, none⟩ := by intro e; cases e; exact hr (List.mem_of_getElem? HG.out)
                    have n2 : (⟨r, m, none⟩ : Addr) ≠ ⟨g2, 4, none⟩ := by intro e; cases e; exact hr (List.mem_of_getElem? HG.out)
                    have n3 : (⟨g1, 0, none⟩ : Addr) ≠ ⟨g2, 4, none⟩ := by intro e; cases e
                    have n4 : (⟨g2, 3, none⟩ : Addr) ≠ ⟨g2, 4, none⟩ := by intro e; cases e
                    refine wp_region_any (by kernel_rfl) ?_
                    refine AnyN.plain (S := fun v => v.cell? ⟨r, k, none⟩ = some (.pointer (some ⟨g2, 0, none⟩)) ∧ v.cell? ⟨r, m, none⟩ = some (.pointer (some ⟨g1, 0, none⟩)) ∧ v.cell? ⟨g1, 0, none⟩ = some (.string (bs z.const)) ∧ v.cell? ⟨g2, 3, none⟩ = some (.string (bs x.cmp)) ∧ v.cell? ⟨g2, 4, none⟩ = some (.int .i64 pc)) (need := fun j => decide (j < 25)) _ _ _ _ ?_
                    change AnyN _ _ _ _ _ _ _ _ _ (World.drew wr)
                    have hS : wr.drew.cell? ⟨r, k, none⟩ = some (.pointer (some ⟨g2, 0, none⟩)) ∧ wr.drew.cell? ⟨r, m, none⟩ = some (.pointer (some ⟨g1, 0, none⟩)) ∧ wr.drew.cell? ⟨g1, 0, none⟩ = some (.string (bs z.const)) ∧ wr.drew.cell? ⟨g2, 3, none⟩ = some (.string (bs x.cmp)) ∧ wr.drew.cell? ⟨g2, 4, none⟩ = some (.int .i64 pc) := ⟨cr1, cr2, z0, c3, c4⟩
                    have HS := Lib.hid hS
                    clear hS
                    refine AnyN.load (i := 0) (x := .slice (some ⟨r, 0, none⟩) n cap) rfl (by kernel_rfl) (by kernel_rfl) (by kernel_rfl) (by kernel_rfl) (fun _ _ _ h => h) (Or.inl ⟨by rfl, fun v hv => by obtain ⟨v0, v1, v2, v3, v4⟩ := hv; go_simp⟩) HS.out ?_
                    try simp only [List.getElem_toArray, List.getElem_cons_zero, Act.put, List.setIfInBounds_toArray, List.set_cons_zero, List.set_cons_succ]
                    refine AnyN.load (i := 1) (x := .int .i64 k) rfl (by kernel_rfl) (by kernel_rfl) (by kernel_rfl) (by kernel_rfl) (fun _ _ _ h => h) (Or.inl ⟨by rfl, fun v hv => by obtain ⟨v0, v1, v2, v3, v4⟩ := hv; go_simp⟩) HS.out ?_
                    try simp only [List.getElem_toArray, List.getElem_cons_zero, List.getElem_cons_succ, Act.put, List.setIfInBounds_toArray, List.set_cons_zero, List.set_cons_succ]
                    refine AnyN.load (i := 2) (x := .pointer (some ⟨r, k, none⟩)) rfl (by kernel_rfl) (by kernel_rfl) (by kernel_rfl) (by kernel_rfl) (fun _ _ _ h => h) (Or.inl ⟨by rfl, fun v hv => by obtain ⟨v0, v1, v2, v3, v4⟩ := hv; go_simp⟩) HS.out ?_
                    try simp only [List.getElem_toArray, List.getElem_cons_zero, List.getElem_cons_succ, Act.put, List.setIfInBounds_toArray, List.set_cons_zero, List.set_cons_succ]
                    refine AnyN.load (i := 3) (x := .pointer (some ⟨g2, 0, none⟩)) rfl (by kernel_rfl) (by kernel_rfl) (by kernel_rfl) (by kernel_rfl) (fun _ _ _ h => h) (Or.inl ⟨by rfl, fun v hv => by obtain ⟨v0, v1, v2, v3, v4⟩ := hv; go_simp⟩) HS.out ?_
                    try simp only [List.getElem_toArray, List.getElem_cons_zero, List.getElem_cons_succ, Act.put, List.setIfInBounds_toArray, List.set_cons_zero, List.set_cons_succ]
                    refine AnyN.load (i := 4) (x := .pointer (some ⟨g2, 0, none⟩)) rfl (by kernel_rfl) (by kernel_rfl) (by kernel_rfl) (by kernel_rfl) (fun _ _ _ h => h) (Or.inl ⟨by rfl, fun v hv => by obtain ⟨v0, v1, v2, v3, v4⟩ := hv; go_simp⟩) HS.out ?_
                    try simp only [List.getElem_toArray, List.getElem_cons_zero, List.getElem_cons_succ, Act.put, List.setIfInBounds_toArray, List.set_cons_zero, List.set_cons_succ]
                    refine AnyN.load (i := 5) (x := .pointer (some ⟨g2, 4, none⟩)) rfl (by kernel_rfl) (by kernel_rfl) (by kernel_rfl) (by kernel_rfl) (fun _ _ _ h => h) (Or.inl ⟨by rfl, fun v hv => by obtain ⟨v0, v1, v2, v3, v4⟩ := hv; go_simp⟩) HS.out ?_
                    try simp only [List.getElem_toArray, List.getElem_cons_zero, List.getElem_cons_succ, Act.put, List.setIfInBounds_toArray, List.set_cons_zero, List.set_cons_succ]
                    refine AnyN.load (i := 6) (x := .int .i64 pc) rfl (by kernel_rfl) (by kernel_rfl) (by kernel_rfl) (by kernel_rfl) (fun _ _ _ h => h) (Or.inl ⟨by rfl, fun v hv => by obtain ⟨v0, v1, v2, v3, v4⟩ := hv; go_simp⟩) HS.out ?_
                    try simp only [List.getElem_toArray, List.getElem_cons_zero, List.getElem_cons_succ, Act.put, List.setIfInBounds_toArray, List.set_cons_zero, List.set_cons_succ]
                    refine AnyN.load (i := 7) (x := .slice (some ⟨r, 0, none⟩) n cap) rfl (by kernel_rfl) (by kernel_rfl) (by kernel_rfl) (by kernel_rfl) (fun _ _ _ h => h) (Or.inl ⟨by rfl, fun v hv => by obtain ⟨v0, v1, v2, v3, v4⟩ := hv; go_simp⟩) HS.out ?_
                    try simp only [List.getElem_toArray, List.getElem_cons_zero, List.getElem_cons_succ, Act.put, List.setIfInBounds_toArray, List.set_cons_zero, List.set_cons_succ]
                    refine AnyN.load (i := 8) (x := .int .i64 m) rfl (by kernel_rfl) (by kernel_rfl) (by kernel_rfl) (by kernel_rfl) (fun _ _ _ h => h) (Or.inl ⟨by rfl, fun v hv => by obtain ⟨v0, v1, v2, v3, v4⟩ := hv; go_simp⟩) HS.out ?_
                    try simp only [List.getElem_toArray, List.getElem_cons_zero, List.getElem_cons_succ, Act.put, List.setIfInBounds_toArray, List.set_cons_zero, List.set_cons_succ]
                    refine AnyN.load (i := 9) (x := .pointer (some ⟨r, m, none⟩)) rfl (by kernel_rfl) (by kernel_rfl) (by kernel_rfl) (by kernel_rfl) (fun _ _ _ h => h) (Or.inl ⟨by rfl, fun v hv => by obtain ⟨v0, v1, v2, v3, v4⟩ := hv; go_simp⟩) HS.out ?_
                    try simp only [List.getElem_toArray, List.getElem_cons_zero, List.getElem_cons_succ, Act.put, List.setIfInBounds_toArray, List.set_cons_zero, List.set_cons_succ]
                    refine AnyN.load (i := 10) (x := .pointer (some ⟨g1, 0, none⟩)) rfl (by kernel_rfl) (by kernel_rfl) (by kernel_rfl) (by kernel_rfl) (fun _ _ _ h => h) (Or.inl ⟨by rfl, fun v hv => by obtain ⟨v0, v1, v2, v3, v4⟩ := hv; go_simp⟩) HS.out ?_
                    try simp only [List.getElem_toArray, List.getElem_cons_zero, List.getElem_cons_succ, Act.put, List.setIfInBounds_toArray, List.set_cons_zero, List.set_cons_succ]
                    refine AnyN.load (i := 11) (x := .pointer (some ⟨g1, 0, none⟩)) rfl (by kernel_rfl) (by kernel_rfl) (by kernel_rfl) (by kernel_rfl) (fun _ _ _ h => h) (Or.inl ⟨by rfl, fun v hv => by obtain ⟨v0, v1, v2, v3, v4⟩ := hv; go_simp⟩) HS.out ?_
                    try simp only [List.getElem_toArray, List.getElem_cons_zero, List.getElem_cons_succ, Act.put, List.setIfInBounds_toArray, List.set_cons_zero, List.set_cons_succ]
                    refine AnyN.load (i := 12) (x := .pointer (some ⟨g1, 0, none⟩)) rfl (by kernel_rfl) (by kernel_rfl) (by kernel_rfl) (by kernel_rfl) (fun _ _ _ h => h) (Or.inl ⟨by rfl, fun v hv => by obtain ⟨v0, v1, v2, v3, v4⟩ := hv; go_simp⟩) HS.out ?_
                    try simp only [List.getElem_toArray, List.getElem_cons_zero, List.getElem_cons_succ, Act.put, List.setIfInBounds_toArray, List.set_cons_zero, List.set_cons_succ]
                    refine AnyN.load (i := 13) (x := .string (bs z.const)) rfl (by kernel_rfl) (by kernel_rfl) (by kernel_rfl) (by kernel_rfl) (fun _ _ _ h => h) (Or.inl ⟨by rfl, fun v hv => by obtain ⟨v0, v1, v2, v3, v4⟩ := hv; go_simp⟩) HS.out ?_
                    try simp only [List.getElem_toArray, List.getElem_cons_zero, List.getElem_cons_succ, Act.put, List.setIfInBounds_toArray, List.set_cons_zero, List.set_cons_succ]
                    refine AnyN.load (i := 14) (x := .slice (some ⟨r, 0, none⟩) n cap) rfl (by kernel_rfl) (by kernel_rfl) (by kernel_rfl) (by kernel_rfl) (fun _ _ _ h => h) (Or.inl ⟨by rfl, fun v hv => by obtain ⟨v0, v1, v2, v3, v4⟩ := hv; go_simp⟩) HS.out ?_
                    try simp only [List.getElem_toArray, List.getElem_cons_zero, List.getElem_cons_succ, Act.put, List.setIfInBounds_toArray, List.set_cons_zero, List.set_cons_succ]
                    refine AnyN.load (i := 15) (x := .int .i64 k) rfl (by kernel_rfl) (by kernel_rfl) (by kernel_rfl) (by kernel_rfl) (fun _ _ _ h => h) (Or.inl ⟨by rfl, fun v hv => by obtain ⟨v0, v1, v2, v3, v4⟩ := hv; go_simp⟩) HS.out ?_
                    try simp only [List.getElem_toArray, List.getElem_cons_zero, List.getElem_cons_succ, Act.put, List.setIfInBounds_toArray, List.set_cons_zero, List.set_cons_succ]
                    refine AnyN.load (i := 16) (x := .pointer (some ⟨r, k, none⟩)) rfl (by kernel_rfl) (by kernel_rfl) (by kernel_rfl) (by kernel_rfl) (fun _ _ _ h => h) (Or.inl ⟨by rfl, fun v hv => by obtain ⟨v0, v1, v2, v3, v4⟩ := hv; go_simp⟩) HS.out ?_
                    try simp only [List.getElem_toArray, List.getElem_cons_zero, List.getElem_cons_succ, Act.put, List.setIfInBounds_toArray, List.set_cons_zero, List.set_cons_succ]
                    refine AnyN.load (i := 17) (x := .pointer (some ⟨g2, 0, none⟩)) rfl (by kernel_rfl) (by kernel_rfl) (by kernel_rfl) (by kernel_rfl) (fun _ _ _ h => h) (Or.inl ⟨by rfl, fun v hv => by obtain ⟨v0, v1, v2, v3, v4⟩ := hv; go_simp⟩) HS.out ?_
                    try simp only [List.getElem_toArray, List.getElem_cons_zero, List.getElem_cons_succ, Act.put, List.setIfInBounds_toArray, List.set_cons_zero, List.set_cons_succ]
                    refine AnyN.load (i := 18) (x := .pointer (some ⟨g2, 0, none⟩)) rfl (by kernel_rfl) (by kernel_rfl) (by kernel_rfl) (by kernel_rfl) (fun _ _ _ h => h) (Or.inl ⟨by rfl, fun v hv => by obtain ⟨v0, v1, v2, v3, v4⟩ := hv; go_simp⟩) HS.out ?_
                    try simp only [List.getElem_toArray, List.getElem_cons_zero, List.getElem_cons_succ, Act.put, List.setIfInBounds_toArray, List.set_cons_zero, List.set_cons_succ]
                    refine AnyN.load (i := 19) (x := .pointer (some ⟨g2, 3, none⟩)) rfl (by kernel_rfl) (by kernel_rfl) (by kernel_rfl) (by kernel_rfl) (fun _ _ _ h => h) (Or.inl ⟨by rfl, fun v hv => by obtain ⟨v0, v1, v2, v3, v4⟩ := hv; go_simp⟩) HS.out ?_
                    try simp only [List.getElem_toArray, List.getElem_cons_zero, List.getElem_cons_succ, Act.put, List.setIfInBounds_toArray, List.set_cons_zero, List.set_cons_succ]
                    refine AnyN.load (i := 20) (x := .string (bs x.cmp)) rfl (by kernel_rfl) (by kernel_rfl) (by kernel_rfl) (by kernel_rfl) (fun _ _ _ h => h) (Or.inl ⟨by rfl, fun v hv => by obtain ⟨v0, v1, v2, v3, v4⟩ := hv; go_simp⟩) HS.out ?_
                    try simp only [List.getElem_toArray, List.getElem_cons_zero, List.getElem_cons_succ, Act.put, List.setIfInBounds_toArray, List.set_cons_zero, List.set_cons_succ]
                    refine AnyN.all (rs := [21]) (by kernel_rfl) (by simp) (one_of ?_)
                    refine op_via rfl rfl (fun K hK => ?_)
                    try simp only [List.getElem_toArray, List.getElem_cons_zero, List.getElem_cons_succ]
                    go_simp
                    refine (count_quiet _ _ _ (by simp [bs_size]; omega) (by have := HXM.out.2.2; simp [bs_size]; omega) (by have := HEM.out; simp [bs_size]; exact this)).mono ?_
                    rintro e w3 ⟨rfl, rfl⟩
                    rw [bs_data, bs_data]
                    refine hK _ _ ⟨fun _ => HS.out, ?_⟩
                    clear hK K
                    try simp only [List.getElem_toArray, List.getElem_cons_zero, List.getElem_cons_succ, Act.put, List.setIfInBounds_toArray, List.set_cons_zero, List.set_cons_succ]
                    refine AnyN.load (i := 22) (x := .int .i64 (pc + (countS z.const x.cmp : Int))) rfl (by kernel_rfl) (by kernel_rfl) (by kernel_rfl) (by kernel_rfl) (fun _ _ _ h => h) (Or.inl ⟨by rfl, fun v hv => by obtain ⟨v0, v1, v2, v3, v4⟩ := hv; go_simp⟩) HS.out ?_
                    try simp only [List.getElem_toArray, List.getElem_cons_zero, List.getElem_cons_succ, Act.put, List.setIfInBounds_toArray, List.set_cons_zero, List.set_cons_succ]
                    refine AnyN.all (rs := [23]) (by kernel_rfl) (by simp) (one_of ?_)
                    refine op_via rfl rfl (fun K hK => ?_)
                    try simp only [List.getElem_toArray, List.getElem_cons_zero, List.getElem_cons_succ]
                    go_simp
                    refine hK _ _ ⟨fun _ => HS.out, ?_⟩
                    clear hK K
                    try simp only [List.getElem_toArray, List.getElem_cons_zero, List.getElem_cons_succ, Act.put, List.setIfInBounds_toArray, List.set_cons_zero, List.set_cons_succ]
                    refine AnyN.load (i := 24) (x := .pointer (some ⟨g2, 4, none⟩)) rfl (by kernel_rfl) (by kernel_rfl) (by kernel_rfl) (by kernel_rfl) (fun _ _ _ h => h) (Or.inl ⟨by rfl, fun v hv => by obtain ⟨v0, v1, v2, v3, v4⟩ := hv; go_simp⟩) HS.out ?_
                    try simp only [List.getElem_toArray, List.getElem_cons_zero, List.getElem_cons_succ, Act.put, List.setIfInBounds_toArray, List.set_cons_zero, List.set_cons_succ]
                    refine AnyN.all (rs := [25]) (by kernel_rfl) (by simp) (one_of ?_)
                    refine op_via rfl rfl (fun K hK => ?_)
                    try simp only [List.getElem_toArray, List.getElem_cons_zero, List.getElem_cons_succ]
                    go_simp
                    refine hK _ _ ⟨fun h => absurd h (by decide), ?_⟩
                    clear hK K
                    try simp only [List.getElem_toArray, List.getElem_cons_zero, List.getElem_cons_succ, Act.put, List.setIfInBounds_toArray, List.set_cons_zero, List.set_cons_succ]
                    refine AnyN.fin (by kernel_rfl) ?_ _
                    all_goals
                      have hin2 : SegsIn ((wr.setCell ⟨g2, 4, none⟩ (.int .i64 (pc + (countS z.const x.cmp : Int)))).drew) gs _ cvs := HS1.out.set hn (f := 4) (x' := { x with length := lenOf x (C.drop (k + 1)), partCount := pc + (countS z.const x.cmp : Int) }) (.int .i64 (pc + (countS z.const x.cmp : Int))) HXG.out HG.out HC.out rfl
                      rw [mid_set HD.out, ← mid_same] at hin2
                      have HIN2 := Lib.hid hin2
                      have HT3 := Lib.hid (show Touch gs w ((wr.setCell ⟨g2, 4, none⟩ (.int .i64 (pc + (countS z.const x.cmp : Int)))).drew) from (HT2.out.trans (touch_set (i := 4) (.int .i64 (pc + (countS z.const x.cmp : Int))) hgm)).drewN 1)
                      clear hin2
                      go_wp2
                      refine ⟨?_, ?measure⟩
                      case measure => simp [intOf]; omega
                      apply Exists.intro (.int .i64 ((m : Int) + 1))
                      repeat apply Exists.intro
                      refine ⟨⟨m + 1, by omega, by omega, by go_num, by rw [HP2.out]; exact HIN2.out, HT3.out⟩, ?_⟩
                      first
                        | rfl
                        | (rw [hem]; rfl)
                        | (simp only [hem]; rfl)
                · obtain rfl : m = n := by omega
                  have HFU := Lib.hid (show (C.drop (k + 1)).take (m - (k + 1)) = C.drop (k + 1) from List.take_of_length_le (by rw [List.length_drop, ← HN.out]; omega))
                  have HS3 := Lib.hid (show SegsIn wr gs ((D ++ [{ x with length := lenOf x (C.drop (k + 1)), partCount := (C.drop (k + 1)).foldl (addC x.cmp) x.partCount }]) ++ C.drop (k + 1)) cvs by rw [← mid_same]; have := HS1.out; rw [HFU.out] at this; exact this)
                  clear HS1
                  go_wp2
                  go_roundw
                  case rel => exact ⟨k + 1, D ++ [{ x with length := lenOf x (C.drop (k + 1)), partCount := (C.drop (k + 1)).foldl (addC x.cmp) x.partCount }], by omega, by go_num, by simp [HD.out], by have h9 := HTe.out; rw [if_neg HEM.out] at h9; exact mo_step h9, HS3.out, HT2.out⟩
                  case measure => simp [intOf]; omega
          | false =>
            rw [hp] at c1
            have c0 := HO.out.cell 0 _ rfl
            have c7 := HO.out.cell 7 _ rfl
            have c8 := HO.out.cell 8 _ rfl
            have f8 := HO.out.frozen 8
            obtain ⟨t, ht⟩ : ∃ t, t = bs x.const := ⟨_, rfl⟩
            have htd : x.const = t.data.toList := by rw [ht, bs_data]
            rw [← ht] at c0
            have hts : t.size ≤ 1000000 := by rw [ht]; exact hxm.1
            by_cases hem : t.size = 0
            · have HDI := Lib.hid (show O = none by
                have h9 := HTX.out
                rw [mfo_none hp (by rw [htd]; exact List.length_eq_zero_iff.1 (by rw [size_data]; exact hem))] at h9
                exact h9)
              have HTo0 := Lib.hid HTo.out
              clear hp ht htd hxm
              obtain rfl : t = ⟨#[]⟩ := by cases t with | mk d => exact congrArg ByteArray.mk (Array.eq_empty_of_size_eq_zero hem)
              go_upto_region 23 with fail
              refine wp_region_any (by kernel_rfl) ?_
              refine AnyN.plain (S := fun v => v.cell? ⟨r, k, none⟩ = some (.pointer (some ⟨g, 0, none⟩)) ∧ v.cell? ⟨g, 0, none⟩ = some (.string ⟨#[]⟩)) (need := fun _ => true) _ _ _ _ ?_
              change AnyN _ _ _ _ _ _ _ _ _ (World.drew wr)
              have HSS := Lib.hid (show wr.drew.cell? ⟨r, k, none⟩ = some (.pointer (some ⟨g, 0, none⟩)) ∧ wr.drew.cell? ⟨g, 0, none⟩ = some (.string ⟨#[]⟩) from ⟨cr, c0⟩)
              have hw1 : IntKind.i64.wrap (-1) = -1 := by decide
              obtain ⟨bb, qq, hdie⟩ := index_neg Tryz.prog wr.drew 9 ⟨#[]⟩ .i64 (-1) under9 (by decide)
              refine AnyN.load (i := 0) (x := .slice (some ⟨r, 0, none⟩) n cap) rfl (by kernel_rfl) (by kernel_rfl) (by kernel_rfl) (by kernel_rfl) (fun _ _ _ h => h) (Or.inl ⟨by rfl, fun v hv => by obtain ⟨v0, v1⟩ := hv; go_simp⟩) HSS.out ?_
              try simp only [List.getElem_toArray, List.getElem_cons_zero, Act.put, List.setIfInBounds_toArray, List.set_cons_zero, List.set_cons_succ]
              refine AnyN.load (i := 1) (x := .int .i64 k) rfl (by kernel_rfl) (by kernel_rfl) (by kernel_rfl) (by kernel_rfl) (fun _ _ _ h => h) (Or.inl ⟨by rfl, fun v hv => by obtain ⟨v0, v1⟩ := hv; go_simp⟩) HSS.out ?_
              try simp only [List.getElem_toArray, List.getElem_cons_zero, List.getElem_cons_succ, Act.put, List.setIfInBounds_toArray, List.set_cons_zero, List.set_cons_succ]
              refine AnyN.load (i := 2) (x := .pointer (some ⟨r, k, none⟩)) rfl (by kernel_rfl) (by kernel_rfl) (by kernel_rfl) (by kernel_rfl) (fun _ _ _ h => h) (Or.inl ⟨by rfl, fun v hv => by obtain ⟨v0, v1⟩ := hv; go_simp⟩) HSS.out ?_
              try simp only [List.getElem_toArray, List.getElem_cons_zero, List.getElem_cons_succ, Act.put, List.setIfInBounds_toArray, List.set_cons_zero, List.set_cons_succ]
              refine AnyN.load (i := 3) (x := .pointer (some ⟨g, 0, none⟩)) rfl (by kernel_rfl) (by kernel_rfl) (by kernel_rfl) (by kernel_rfl) (fun _ _ _ h => h) (Or.inl ⟨by rfl, fun v hv => by obtain ⟨v0, v1⟩ := hv; go_simp⟩) HSS.out ?_
              try simp only [List.getElem_toArray, List.getElem_cons_zero, List.getElem_cons_succ, Act.put, List.setIfInBounds_toArray, List.set_cons_zero, List.set_cons_succ]
              refine AnyN.load (i := 4) (x := .pointer (some ⟨g, 0, none⟩)) rfl (by kernel_rfl) (by kernel_rfl) (by kernel_rfl) (by kernel_rfl) (fun _ _ _ h => h) (Or.inl ⟨by rfl, fun v hv => by obtain ⟨v0, v1⟩ := hv; go_simp⟩) HSS.out ?_
              try simp only [List.getElem_toArray, List.getElem_cons_zero, List.getElem_cons_succ, Act.put, List.setIfInBounds_toArray, List.set_cons_zero, List.set_cons_succ]
              refine AnyN.load (i := 5) (x := .pointer (some ⟨g, 0, none⟩)) rfl (by kernel_rfl) (by kernel_rfl) (by kernel_rfl) (by kernel_rfl) (fun _ _ _ h => h) (Or.inl ⟨by rfl, fun v hv => by obtain ⟨v0, v1⟩ := hv; go_simp⟩) HSS.out ?_
              try simp only [List.getElem_toArray, List.getElem_cons_zero, List.getElem_cons_succ, Act.put, List.setIfInBounds_toArray, List.set_cons_zero, List.set_cons_succ]
              refine AnyN.load (i := 6) (x := .string ⟨#[]⟩) rfl (by kernel_rfl) (by kernel_rfl) (by kernel_rfl) (by kernel_rfl) (fun _ _ _ h => h) (Or.inl ⟨by rfl, fun v hv => by obtain ⟨v0, v1⟩ := hv; go_simp⟩) HSS.out ?_
              try simp only [List.getElem_toArray, List.getElem_cons_zero, List.getElem_cons_succ, Act.put, List.setIfInBounds_toArray, List.set_cons_zero, List.set_cons_succ]
              refine AnyN.load (i := 7) (x := .slice (some ⟨r, 0, none⟩) n cap) rfl (by kernel_rfl) (by kernel_rfl) (by kernel_rfl) (by kernel_rfl) (fun _ _ _ h => h) (Or.inl ⟨by rfl, fun v hv => by obtain ⟨v0, v1⟩ := hv; go_simp⟩) HSS.out ?_
              try simp only [List.getElem_toArray, List.getElem_cons_zero, List.getElem_cons_succ, Act.put, List.setIfInBounds_toArray, List.set_cons_zero, List.set_cons_succ]
              refine AnyN.load (i := 8) (x := .int .i64 k) rfl (by kernel_rfl) (by kernel_rfl) (by kernel_rfl) (by kernel_rfl) (fun _ _ _ h => h) (Or.inl ⟨by rfl, fun v hv => by obtain ⟨v0, v1⟩ := hv; go_simp⟩) HSS.out ?_
              try simp only [List.getElem_toArray, List.getElem_cons_zero, List.getElem_cons_succ, Act.put, List.setIfInBounds_toArray, List.set_cons_zero, List.set_cons_succ]
              refine AnyN.load (i := 9) (x := .pointer (some ⟨r, k, none⟩)) rfl (by kernel_rfl) (by kernel_rfl) (by kernel_rfl) (by kernel_rfl) (fun _ _ _ h => h) (Or.inl ⟨by rfl, fun v hv => by obtain ⟨v0, v1⟩ := hv; go_simp⟩) HSS.out ?_
              try simp only [List.getElem_toArray, List.getElem_cons_zero, List.getElem_cons_succ, Act.put, List.setIfInBounds_toArray, List.set_cons_zero, List.set_cons_succ]
              refine AnyN.load (i := 10) (x := .pointer (some ⟨g, 0, none⟩)) rfl (by kernel_rfl) (by kernel_rfl) (by kernel_rfl) (by kernel_rfl) (fun _ _ _ h => h) (Or.inl ⟨by rfl, fun v hv => by obtain ⟨v0, v1⟩ := hv; go_simp⟩) HSS.out ?_
              try simp only [List.getElem_toArray, List.getElem_cons_zero, List.getElem_cons_succ, Act.put, List.setIfInBounds_toArray, List.set_cons_zero, List.set_cons_succ]
              refine AnyN.load (i := 11) (x := .pointer (some ⟨g, 0, none⟩)) rfl (by kernel_rfl) (by kernel_rfl) (by kernel_rfl) (by kernel_rfl) (fun _ _ _ h => h) (Or.inl ⟨by rfl, fun v hv => by obtain ⟨v0, v1⟩ := hv; go_simp⟩) HSS.out ?_
              try simp only [List.getElem_toArray, List.getElem_cons_zero, List.getElem_cons_succ, Act.put, List.setIfInBounds_toArray, List.set_cons_zero, List.set_cons_succ]
              refine AnyN.load (i := 12) (x := .pointer (some ⟨g, 0, none⟩)) rfl (by kernel_rfl) (by kernel_rfl) (by kernel_rfl) (by kernel_rfl) (fun _ _ _ h => h) (Or.inl ⟨by rfl, fun v hv => by obtain ⟨v0, v1⟩ := hv; go_simp⟩) HSS.out ?_
              try simp only [List.getElem_toArray, List.getElem_cons_zero, List.getElem_cons_succ, Act.put, List.setIfInBounds_toArray, List.set_cons_zero, List.set_cons_succ]
              refine AnyN.load (i := 13) (x := .string ⟨#[]⟩) rfl (by kernel_rfl) (by kernel_rfl) (by kernel_rfl) (by kernel_rfl) (fun _ _ _ h => h) (Or.inl ⟨by rfl, fun v hv => by obtain ⟨v0, v1⟩ := hv; go_simp⟩) HSS.out ?_
              try simp only [List.getElem_toArray, List.getElem_cons_zero, List.getElem_cons_succ, Act.put, List.setIfInBounds_toArray, List.set_cons_zero, List.set_cons_succ]
              refine AnyN.load (i := 14) (x := .int .i64 0) rfl (by kernel_rfl) (by kernel_rfl) (by kernel_rfl) (by kernel_rfl) (fun _ _ _ h => h) (Or.inl ⟨by rfl, fun v hv => by obtain ⟨v0, v1⟩ := hv; go_simp⟩) HSS.out ?_
              try simp only [List.getElem_toArray, List.getElem_cons_zero, List.getElem_cons_succ, Act.put, List.setIfInBounds_toArray, List.set_cons_zero, List.set_cons_succ]
              refine AnyN.load (i := 15) (x := .int .i64 (-1)) rfl (by kernel_rfl) (by kernel_rfl) (by kernel_rfl) (by kernel_rfl) (fun _ _ _ h => h) (Or.inl ⟨by rfl, fun v hv => by obtain ⟨v0, v1⟩ := hv; go_simp⟩) HSS.out ?_
              try simp only [List.getElem_toArray, List.getElem_cons_zero, List.getElem_cons_succ, Act.put, List.setIfInBounds_toArray, List.set_cons_zero, List.set_cons_succ]
              refine AnyN.all (rs := [16]) (by kernel_rfl) (by simp) (one_of ?_)
              refine op_via rfl rfl (fun K hK => ?_)
              try simp only [List.getElem_toArray, List.getElem_cons_zero, List.getElem_cons_succ]
              go_simp
              have hfin : ∀ q, MetaEnd gs cvs r L.length cap O w (.panicked [{ v := boundsValue Tryz.prog (-1) 0 bb 0, recovered := false }]) (wr.drewN q) := fun q => by
                rw [HDI.out]
                exact ⟨HTo0.out.drewN q, _, _, rfl⟩
              go_wp2_with fail
              exact ⟨rfl, hfin _⟩
            obtain ⟨c, hgl⟩ : ∃ c, x.const.getLast? = some c := by
              cases hq : x.const.getLast? with
              | some c => exact ⟨c, rfl⟩
              | none => exfalso; rw [List.getLast?_eq_none_iff] at hq; rw [hq] at htd; have h9 := congrArg List.length htd; rw [size_data] at h9; exact hem h9.symm
            have hTe := HTX.out
            rw [mfo_const hp hgl] at hTe
            rw [htd] at hgl
            obtain ⟨hl', hlast⟩ := bs_last t hgl
            have hl1 : (1 : Int) ≤ t.size := by omega
            have HTe := Lib.hid hTe
            have HLA := Lib.hid hlast
            have HS2 := Lib.hid (fun nq => show SegsIn ((wr.drewN nq).setCell ⟨g, 8, none⟩ (.bool true)) gs ((D ++ [{ x with optSlash := true }]) ++ C.drop (k + 1)) cvs by
              have := (HI.out.drewN nq).set hn (f := 8) (x' := { x with optSlash := true }) (.bool true) HGX.out HG.out HC.out rfl
              rw [HDS.out, mid_set HD.out] at this
              exact this)
            have HS1 := Lib.hid (fun nq => show SegsIn (wr.drewN nq) gs ((D ++ [x]) ++ C.drop (k + 1)) cvs by rw [← mid_same, ← HDS.out]; exact HI.out.drewN nq)
            have HTo1 := Lib.hid (fun nq => HTo.out.drewN nq)
            have HTo2 := Lib.hid (fun nq => (HTo.out.drewN nq).trans (touch_set (i := 8) (.bool true) hgm))
            clear hp ht htd hgl hTe hlast hxm hem
            have e1 : IntKind.i64.wrap ((t.size : Int) - 1) = (t.size : Int) - 1 := IntWalk.i64_in _ (by omega)
            have e2 : (0 : Int) ≤ (t.size : Int) - 1 := by omega
            have e3 : ((t.size : Int) - 1).toNat = t.size - 1 := by omega
            have e4 : (t.size : Int) - 1 < (t.size : Int) := by omega
            have e5 : IntKind.i64.wrap ((k : Int) + 1) = (k : Int) + 1 := IntWalk.i64_in _ (by omega)
            have e6 : (0 : Int) ≤ (k : Int) + 1 := by omega
            have e7 : ((k : Int) + 1).toNat = k + 1 := by omega
            by_cases hc : c = 47
            · have hq : (((t[t.size - 1]'hl').toNat : Int) == 47) = true := by rw [HLA.out, hc]; rfl
              cases hla : x.last with
              | true =>
                have HLL := Lib.hid hla
                rw [hla] at c7
                clear hla
                go_upto_region 23 with fail
                go_quiet (fail)
                go_wp2
                go_roundw
                case rel => exact ⟨k + 1, D ++ [{ x with optSlash := true }], by omega, by go_num, by simp [HD.out], by have h9 := HTe.out; rw [if_pos ⟨hc, .inl HLL.out⟩] at h9; exact mo_step h9, HS2.out _, HTo2.out _⟩
                case measure => simp [intOf]; omega
              | false =>
                have HLL := Lib.hid hla
                rw [hla] at c7
                clear hla
                by_cases hk1 : k + 1 < n
                · have hkb : decide ((k : Int) + 1 < (n : Int)) = true := decide_eq_true (by omega)
                  obtain ⟨z, hz⟩ : ∃ z, C[k + 1]? = some z := ⟨C[k + 1]'(by have := HN.out; omega), List.getElem?_eq_getElem (by have := HN.out; omega)⟩
                  have hzg : (D ++ C.drop k)[k + 1]? = some z := by rw [List.getElem?_append_right (by rw [HD.out]; omega), HD.out, List.getElem?_drop, show k + (k + 1 - k) = k + 1 by omega]; exact hz
                  obtain ⟨g1, cv1, hg1, hcv1, ho1⟩ := HI.out.2.2 (k + 1) z hzg
                  have cr1 := touch_cell HTo.out hr (HROW.out (k + 1) g1 hg1)
                  have z6 := ho1.cell 6 _ rfl
                  have HH := Lib.hid (show (C.drop (k + 1)).head? = some z by rw [drop_step hz]; rfl)
                  clear hz hzg hg1 hcv1 ho1
                  cases hzo : z.optional with
                  | true =>
                    have HZ := Lib.hid hzo
                    rw [hzo] at z6
                    clear hzo
                    go_upto_region 23 with fail
                    go_quiet (fail)
                    go_wp2
                    go_roundw
                    case rel => exact ⟨k + 1, D ++ [{ x with optSlash := true }], by omega, by go_num, by simp [HD.out], by have h9 := HTe.out; rw [if_pos ⟨hc, .inr (by rw [HH.out]; exact congrArg some HZ.out)⟩] at h9; exact mo_step h9, HS2.out _, HTo2.out _⟩
                    case measure => simp [intOf]; omega
                  | false =>
                    have HZ := Lib.hid hzo
                    rw [hzo] at z6
                    clear hzo
                    go_upto_region 23 with fail
                    go_quiet (fail)
                    go_wp2
                    go_roundw
                    case rel => exact ⟨k + 1, D ++ [x], by omega, by go_num, by simp [HD.out], by have h9 := HTe.out; rw [if_neg (fun h => h.2.elim (fun h' => by rw [HLL.out] at h'; cases h') (fun h' => by rw [HH.out] at h'; simp [HZ.out] at h'))] at h9; exact mo_step h9, HS1.out _, HTo1.out _⟩
                    case measure => simp [intOf]; omega
                · have hkb : decide ((k : Int) + 1 < (n : Int)) = false := decide_eq_false (by omega)
                  have HH := Lib.hid (show C.drop (k + 1) = [] from List.drop_of_length_le (by have := HN.out; omega))
                  go_upto_region 23 with fail
                  go_quiet (fail)
                  go_wp2
                  go_roundw
                  case rel => exact ⟨k + 1, D ++ [x], by omega, by go_num, by simp [HD.out], by have h9 := HTe.out; rw [if_neg (fun h => h.2.elim (fun h' => by rw [HLL.out] at h'; cases h') (fun h' => by rw [HH.out] at h'; simp at h'))] at h9; exact mo_step h9, HS1.out _, HTo1.out _⟩
                  case measure => simp [intOf]; omega
            · have hq : (((t[t.size - 1]'hl').toNat : Int) == 47) = false := by rw [HLA.out, u8_beq c 47 47 rfl]; simpa using hc
              go_upto_region 23 with fail
              go_quiet (fail)
              go_wp2
              go_roundw
              case rel => exact ⟨k + 1, D ++ [x], by omega, by go_num, by simp [HD.out], by have h9 := HTe.out; rw [if_neg (fun h => hc h.1)] at h9; exact mo_step h9, HS1.out _, HTo1.out _⟩
              case measure => simp [intOf]; omega
        · obtain rfl : k = n := by omega
          have hfin : O = some D ∧ SegsIn wr gs D cvs := by
            have h1 := HTT.out
            have h2 := HI.out
            rw [HN.out, List.drop_length] at h1 h2
            rw [List.append_nil] at h2
            exact ⟨by rw [h1]; simp [metaFwd], h2⟩
          have HF := Lib.hid hfin
          clear hfin
          go_wp2
          go_ret
          rw [HF.out.1]
          refine ⟨HTo.out, ?_, HF.out.2⟩
          rw [← HNL.out]
          rfl
    | succ k =>
      obtain ⟨x, hx⟩ : ∃ x, L[k]? = some x := ⟨L[k]'(by omega), List.getElem?_eq_getElem (by omega)⟩
      obtain ⟨g, cv, hg, hcv, ho⟩ := HI.out.2.2 k x (backAt_get hx)
      have HX := Lib.hid hx
      have HG := Lib.hid hg
      have HC := Lib.hid hcv
      have HO := Lib.hid ho
      have cr := touch_cell HT.out hr (HROW.out k g hg)
      have c1 := ho.cell 1 _ rfl
      have hgm := List.mem_of_getElem? hg
      clear hx hg hcv ho
      have e1 : ((k : Nat) : Int) + 1 - 1 = k := by omega
      cases hp : x.isParam with
      | true =>
        rw [hp] at c1
        have hcmp := cmpBack_le (B := 1000000) (L.drop (k + 1)) fun y hy => (hcl y (List.mem_of_mem_drop hy)).1
        have HB := Lib.hid (backAt_param HX.out hp)
        have HK := Lib.hid (show (cmpBack (L.drop k)).2 = (cmpBack (L.drop (k + 1))).2 by rw [drop_step HX.out, cmpBack_param hp])
        have f3 := HO.out.frozen 3
        have c3 := HO.out.cell 3 _ rfl
        obtain ⟨cp, hcp⟩ : ∃ cp, cp = (cmpBack (L.drop (k + 1))).2 := ⟨_, rfl⟩
        rw [← hcp] at hcmp HB HK
        rw [← hcp]
        clear hcp hp
        go_upto_region 7 with fail
        go_region_with (go_at_call 51; refine (unesc_any _ _ (by simp [bs_size]; omega)).mono ?_; rintro e w3 ⟨rfl, hb3⟩; have c3' := (hb3.cell (p := ⟨g, 3, none⟩) (by exact HO.out.lt)).trans c3; have f3' := (hb3.frozen (p := ⟨g, 3, none⟩) (by exact HO.out.lt)).trans f3; have cr' := (hb3.cell (p := ⟨r, k, none⟩) (by exact cell_lt cr)).trans cr; rw [bs_data])
        all_goals
          have hb4 : Below wr.heap.size wr w3 := ⟨hb3.os, hb3.tape, hb3.output, hb3.size, hb3.block⟩
          have hin2 := ((HI.out.below hb4).set hn (f := 3) (x' := { x with cmp := unesc cp }) (.string (bs (unesc cp))) (backAt_get HX.out) HG.out HC.out rfl)
          rw [← HB.out] at hin2
          have HIN2 := Lib.hid hin2
          have HT2 := Lib.hid ((HT.out.trans (touch_below hb4)).trans (touch_set (i := 3) (.string (bs (unesc cp))) hgm))
          clear hin2 hb3 hb4 c3' f3' cr'
          go_wp2
          go_roundw
          case rel => exact ⟨k, by omega, by go_num, by rw [HK.out], HIN2.out, HT2.out⟩
          case measure => simp [intOf]
      | false =>
        rw [hp] at c1
        have HB := Lib.hid (backAt_const HX.out hp)
        have c0 := HO.out.cell 0 _ rfl
        have hcl0 := (hcl x (List.mem_of_getElem? HX.out)).1
        have HK := Lib.hid (show (cmpBack (L.drop k)).2 = if 1 < x.const.length then trimRight x.const 47 else x.const by rw [drop_step HX.out, cmpBack_const hp])
        clear hp
        by_cases h1 : 1 < x.const.length
        · have HK2 := Lib.hid (HK.out.trans (if_pos h1))
          go_wp2_with (go_at_call 50; refine (trimRight_any _ 47 _ (by simp [bs_size]; omega)).mono ?_; rintro e w3 ⟨rfl, rfl⟩; rw [bs_data])
          go_roundw
          case rel => exact ⟨k, by omega, by go_num, by rw [HK2.out], by rw [HB.out]; exact HI.out, HT.out⟩
          case measure => simp [intOf]
        · have HK2 := Lib.hid (HK.out.trans (if_neg h1))
          go_wp2
          go_roundw
          case rel => exact ⟨k, by omega, by go_num, by rw [HK2.out], by rw [HB.out]; exact HI.out, HT.out⟩
          case measure => simp [intOf]
end Go.Proofs.YtiebedcldbmlhaaGreatDoor
