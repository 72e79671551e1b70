/-
  analyseParameterPart, of a text that bears one constraint. Conditions: of a size that addresses allow; the constraint's data are one text or none.
-/
import Derived.Test.YtiebedcldbmlhaaGreatDoorY
namespace Go.Proofs.YtiebedcldbmlhaaGreatDoor
open Go.RowKit
set_option linter.unusedVariables false

theorem lbGo_lt {s : Bs} {c : UInt8} : ∀ {k n : Nat}, lbGo s c k = some n → n < k
  | 0, n, h => by cases h
  | k + 1, n, h => by
    unfold lbGo at h
    split at h
    · cases h; omega
    · have := lbGo_lt h; omega
theorem lb_lt {s : Bs} {c : UInt8} {n : Nat} (h : lb s c = some n) : n < s.length := lbGo_lt h
theorem info84 : (Tryz.prog.info? 84).map (fun i => (i.zero, i.size, i.bytes)) = some (some (.pointer none), 1, 8) := by kernel_rfl
theorem ctype_range (s : Bs) : 1 ≤ ctype s ∧ ctype s ≤ 15 := by
  unfold ctype
  repeat' split
  all_goals omega

theorem ptrs_one1 (l : List Nat) : ∀ u ∈ ptrs l, u.oneCell' = true := by
  intro u hu
  obtain ⟨s, _, rfl⟩ := List.mem_map.1 hu
  rfl
theorem own_obj {w : World} {base : Nat} {e : TypeId} {v : Value} {n : Nat} {xs : List Value} (h : w.ownsRow base e 1 v n xs) (hn : 0 < n) :
    ∃ g cap cur, v = .slice (some ⟨g, 0, none⟩) n cap ∧ base ≤ g ∧ w.heap[g]? = some (.cells cur e (0, 0)) ∧ n ≤ cap ∧ cap ≤ maxLen ∧ cur.size = cap * 1 ∧ cur.toList.take (n * 1) = xs := by
  obtain ⟨_, ⟨_, h0⟩ | ⟨g, cap, cur, rfl, hb, hh, h1, h2, h3, h4⟩⟩ := h
  · omega
  · exact ⟨g, cap, cur, rfl, hb, hh, h1, h2, h3, h4⟩
theorem undrew {B : Nat} {X w : World} (h : Below B X.drew w) : Below B X w := ⟨h.os, h.tape, h.output, h.size, h.block⟩
theorem set_first {cur : Array Value} {cap : Nat} {y : Value} (hs : cur.size = cap * 1) (h1 : 1 ≤ cap) : (cur.setIfInBounds 0 y).toList.take (1 * 1) = [y] := by
  obtain ⟨l⟩ := cur
  cases l with
  | nil => simp at hs; omega
  | cons a l => simp
theorem splitGo_ne (sep : UInt8) (k : Nat) (s : Bs) : splitGo sep k s ≠ [] := by
  cases k with
  | zero => simp [splitGo]
  | succ k =>
    unfold splitGo
    split <;> simp
theorem split_one {s : Bs} {sep : UInt8} {c : Bs} (h : splitNE s sep = [c]) : c = s := by
  unfold splitNE at h
  cases hl : s.length with
  | zero => rw [hl] at h; simp [splitGo] at h; exact h.symm
  | succ k =>
    rw [hl] at h
    cases hn : nne s [sep] with
    | none => rw [splitGo_none hn] at h; simp at h; exact h.symm
    | some i =>
      rw [splitGo_some hn] at h
      simp only [List.cons.injEq] at h
      exact absurd h.2 (splitGo_ne _ _ _)
theorem fin_con {s : ByteArray} {P stars pluses st pl : Nat} {sv pv cv d : Value} {w wy : World} {q : Bs} {x : Seg} {con : Con} {kk : Nat} (hc : x.cons = [con]) (hg : w.grownBy wy (some P))
    (hP : wy.heap[P]? = some (.cells #[sv, pv, .int .i64 (st : Nat), .int .i64 (pl : Nat)] 79 (0, 0))) (hrow : wy.ownsRow w.heap.size 84 1 cv 1 (ptrs [kk])) (hk : w.heap.size ≤ kk) (ho : wy.heap[kk]? = some (.cells #[.int .i16 con.id, d] 66 (0, 0))) (hd : wy.ownsRow w.heap.size 9 1 d con.data.length (svals con.data)) :
    PartEnd s P stars pluses sv pv (some (q, x, st, pl)) w (.returned (.tuple #[.string (bs q), .pointer (some ⟨wy.heap.size, 0, none⟩)])) (wy.alloc (.cells (segCells x cv).toArray 99)) := by
  refine ⟨wy.heap.size, cv, rfl, hg.size, seg_new wy x _, grown_alloc hg _, ?_, ?_⟩
  · rw [Below.heap_alloc wy _ P (lt_of_obj hP)]; exact hP
  · rw [hc]
    refine ⟨[kk], rfl, hrow.alloc _, fun e => by have := (hrow.lt _ e).2; omega, fun i c h => ?_⟩
    cases i with
    | zero =>
      obtain rfl : con = c := by simpa using h
      refine ⟨kk, rfl, hk, by have := lt_of_obj ho; omega, d, ?_, hd.alloc _, fun e => by have := (hd.lt _ e).2; omega⟩
      rw [Below.heap_alloc wy _ kk (lt_of_obj ho)]; exact ho
    | succ i => simp at h
theorem po_none {p : Bs} {st pl : Nat} {nm : Bs} {cons : List Con} (h1 : ¬ p.head? = some 42) (h2 : ¬ p.head? = some 43) : partOf p st pl nm cons = (p.take (paramEnd p + 1), { const := [], isParam := true, name := nm, cmp := [], partCount := 0, greedy := false, optional := decide (p[paramEnd p]? = some 63), last := false, optSlash := false, cons := cons, length := 0 }, st, pl) := by
  simp [partOf, h1, h2]
/-- A constraint's text without data; with one datum. -/
def OneOf (c : Bs) (con : Con) : Prop :=
  (nne c [40] = none ∧ con = ⟨ctype c, []⟩) ∨
  (∃ st en d, nne c [40] = some st ∧ lb c 41 = some en ∧ st + 1 ≤ en ∧ ctype (c.take st) ≠ 15 ∧ splitNE ((c.drop (st + 1)).take (en - (st + 1))) 44 = [d] ∧ con = ⟨ctype (c.take st), [unesc d]⟩)

set_option maxHeartbeats 8000000 in
set_option maxRecDepth 100000 in
theorem part_con (s : ByteArray) (P stars pluses : Nat) (sv pv : Value) (w : World) (hs : s.size ≤ 1000000000) (h0 : 0 < s.size)
    (hP : w.heap[P]? = some (.cells #[sv, pv, .int .i64 stars, .int .i64 pluses] 79 (0, 0))) (a z : Nat) (hst : stOf s.data.toList = some a) (hen : enOf s.data.toList = some z) (haz : a + 1 ≤ z) (hhead : s.data.toList.head? = some 58)
    (c : Bs) (hsp : splitNE ((s.data.toList.drop (a + 1)).take (z - (a + 1))) 59 = [c]) (con : Con) (hone : OneOf c con) :
    Calls Tryz.prog 53 #[.pointer (some ⟨P, 0, none⟩), .string s] w (PartEnd s P stars pluses sv pv (some (partOf s.data.toList stars pluses (unesc (trimmed (s.data.toList.take a))) [con])) w) := by
  have HONE := Lib.hid hone
  have HSP := Lib.hid hsp
  have HST := Lib.hid hst
  have HEN := Lib.hid hen
  have HHEAD := Lib.hid hhead
  clear hone hsp hst hen hhead
  have HP := Lib.hid hP
  clear hP
  go_enter Tryz.func53, Tryz.ntmps53
  go_upto_region 4 with fail
  generalize hwi : (((s[0]'h0).toNat : Int) == 42) = wild
  generalize hpi : (((s[0]'h0).toNat : Int) == 43) = plus
  have HWI := Lib.hid hwi
  have HPI := Lib.hid hpi
  clear hwi hpi
  go_cut [34] from 23 to 34 (fun v wx => v = .bool (s.data.toList.contains 60 && s.data.toList.contains 62) ∧ Below w.heap.size w wx)
  case first =>
    cases hA : s.data.toList.contains 60 with
    | false =>
      have HA := Lib.hid hA
      clear hA
      go_wp2_with (go_at_call 66; refine (containsRune_any s 60 (by decide) _ (by omega)).mono ?_; rintro e w1 ⟨rfl, hb1⟩; rw [HA.out])
      go_meet
      case rel => exact ⟨by rw [HA.out]; rfl, hb1⟩
    | true =>
      have HA := Lib.hid hA
      clear hA
      go_wp2_with (first | (go_at_call 66; refine (containsRune_any s 60 (by decide) _ (by omega)).mono ?_; rintro e w1 ⟨rfl, hb1⟩; rw [HA.out]) | (go_at_call 66; refine (containsRune_any s 62 (by decide) _ (by omega)).mono ?_; rintro e w2 ⟨rfl, hb2⟩))
      go_meet
      case rel => exact ⟨by rw [HA.out]; simp, hb1.trans (hb2.mono hb1.size)⟩
  case rest =>
  obtain ⟨rfl, hb⟩ := hcut
  have HB := Lib.hid hb
  clear hb
  go_upto_if 34 with fail
  go_cut [8] from 34 to 42 (fun v wx => v = .int .i64 (endA s.data.toList) ∧ Below w.heap.size w wx)
  case first =>
    have hex := Lib.hid (extract_from s 1)
    have hex2 := Lib.hid (extract_range s 1 s.size)
    have e4 : (1 : Int) ≤ (s.size : Int) := by omega
    cases hA : (s.data.toList.contains 60 && s.data.toList.contains 62) with
    | false =>
      have HA := Lib.hid (show endA s.data.toList = oi (nne (s.data.toList.drop 1) ends) by unfold endA; rw [hA]; rfl)
      go_upto_region 6 with fail
      go_region_with (first | (go_at_call 68; refine (chars68 _).mono ?_; rintro e w2 ⟨g2, cap2, rfl, hc2, _, _, hb2⟩) | (go_at_call 64; refine (nne_any _ g2 0 cap2 ends _ (by simp; omega) (by decide) (by assumption)).mono ?_; rintro e w2' ⟨rfl, rfl⟩; rw [hex.out, ← HA.out]))
      all_goals
        go_wp2_with fail
        go_meet
        exact ⟨rfl, HB.out.drew.trans (hb2.mono HB.out.size)⟩
    | true =>
      have HA := Lib.hid (show endA s.data.toList = nextCon (s.data.toList.drop 1) ends by unfold endA; rw [hA]; rfl)
      go_upto_region 5 with fail
      go_region_with (first | (go_at_call 68; refine (chars68 _).mono ?_; rintro e w2 ⟨g2, cap2, rfl, hc2, _, hg2, hb2⟩) | (go_at_call 67; refine (nextCon_any _ g2 0 cap2 ends _ (by simp; omega) (by decide) (by assumption) (by assumption)).mono ?_; rintro e w3 ⟨rfl, hb3⟩; rw [hex.out, ← HA.out]))
      all_goals
        go_wp2_with fail
        go_meet
        exact ⟨rfl, HB.out.drew.trans ((hb2.mono HB.out.size).trans (hb3.mono (Nat.le_trans HB.out.size hb2.size)))⟩
  case rest =>
  obtain ⟨rfl, hb⟩ := hcut
  have HB := Lib.hid hb
  clear hb
  have hE := endA_range s h0
  obtain ⟨E, hEe⟩ : ∃ E, E = endA s.data.toList := ⟨_, rfl⟩
  rw [← hEe] at hE
  rw [← hEe]
  have HE := Lib.hid hEe
  clear hEe
  have HL := Lib.hid (show s.data.toList.length = s.size from size_data s)
  have hhd := Lib.hid (head_of s h0)
  go_upto_block 0 with fail
  go_cut [6, 7, 8] from 43 to 61 (fun a b v wx => a = .bool wild ∧ b = .bool plus ∧ v = .int .i64 (paramEnd s.data.toList) ∧ Below w.heap.size w wx)
  case first =>
    cases hw : wild with
    | true =>
      have HQ := Lib.hid (pe_greedy (p := s.data.toList) (.inl (by rw [hhd.out]; exact congrArg some (u8_yes (HWI.out.trans hw) 42 rfl))))
      have HW := Lib.hid hw
      clear hw
      go_wp2
      go_meet
      case rel => exact ⟨congrArg Value.bool HW.out.symm, rfl, by rw [HQ.out]; rfl, HB.out⟩
    | false =>
      cases hp : plus with
      | true =>
        have HQ := Lib.hid (pe_greedy (p := s.data.toList) (.inr (by rw [hhd.out]; exact congrArg some (u8_yes (HPI.out.trans hp) 43 rfl))))
        have HW := Lib.hid hw
        have HPl := Lib.hid hp
        clear hw hp
        go_wp2
        go_meet
        case rel => exact ⟨congrArg Value.bool HW.out.symm, congrArg Value.bool HPl.out.symm, by rw [HQ.out]; rfl, HB.out⟩
      | false =>
        have HN := Lib.hid (show ¬ (s.data.toList.head? = some 42 ∨ s.data.toList.head? = some 43) by
          rw [hhd.out]
          rintro (h | h)
          · exact u8_no (HWI.out.trans hw) 42 rfl (Option.some.inj h)
          · exact u8_no (HPI.out.trans hp) 43 rfl (Option.some.inj h))
        have HW := Lib.hid hw
        have HPl := Lib.hid hp
        clear hw hp
        by_cases hm : E = -1
        · have HQ := Lib.hid (pe_last HN.out (HE.out.symm.trans hm))
          have e1 : (1 : Int) ≤ s.size := by omega
          subst hm
          go_wp2
          go_meet
          case rel =>
            refine ⟨congrArg Value.bool HW.out.symm, congrArg Value.bool HPl.out.symm, ?_, HB.out⟩
            rw [HQ.out, HL.out]
            go_num
        · obtain ⟨k, rfl⟩ : ∃ k : Nat, E = k := ⟨E.toNat, by omega⟩
          have hk : k + 1 < s.size := by omega
          have hkm : ((k : Int) == -1) = false := by rw [beq_eq_false_iff_ne]; omega
          have HQ := Lib.hid (pe_mid HN.out HE.out.symm hk)
          have e1 : IntKind.i64.wrap ((k : Int) + 1) = (k : Int) + 1 := IntWalk.i64_in _ (by omega)
          have e2 : (0 : Int) ≤ (k : Int) + 1 := by omega
          have e3 : ((k : Int) + 1).toNat = k + 1 := by omega
          have e4 : (k : Int) + 1 < (s.size : Int) := by omega
          clear hm hE
          go_upto_region 14 with fail
          go_region_with (first | (go_at_call 70; refine (chars70 _).mono ?_; rintro e w2 ⟨g2, cap2, rfl, hc2, _, hg2, hb2⟩) | (go_at_call 69; refine (in_any (s[k + 1]'hk) g2 0 cap2 delims _ (by decide) (by assumption)).mono ?_; rintro e w3 ⟨rfl, rfl⟩))
          all_goals go_wp2
          all_goals go_meet
          all_goals first
            | (have hd : (!decide (s[k + 1]'hk ∈ delims)) = true := by assumption
               exact ⟨congrArg Value.bool HW.out.symm, congrArg Value.bool HPl.out.symm, by rw [HQ.out, if_neg (by rw [List.contains_iff_mem]; simpa using hd)]; rfl, HB.out.drew.trans (hb2.mono HB.out.size)⟩)
            | (have hd : (!decide (s[k + 1]'hk ∈ delims)) = false := by assumption
               exact ⟨congrArg Value.bool HW.out.symm, congrArg Value.bool HPl.out.symm, by rw [HQ.out, if_pos (by rw [List.contains_iff_mem]; simpa using hd)], HB.out.drew.trans (hb2.mono HB.out.size)⟩)
  case rest =>
  obtain ⟨rfl, rfl, rfl, hb⟩ := hcut
  clear HB
  have HB := Lib.hid hb
  clear hb
  clear hE HE E
  obtain ⟨e, hee⟩ : ∃ e, e = paramEnd s.data.toList := ⟨_, rfl⟩
  have hle := paramEnd_lt s h0
  rw [← hee] at hle
  rw [← hee]
  have HE := Lib.hid hee
  clear hee
  go_upto_if 63 with fail
  go_cut [9, 10] from 62 to 74 (fun a b wx => a = .int .i64 (oi (stOf s.data.toList)) ∧ b = .int .i64 (oi (enOf s.data.toList)) ∧ Below w.heap.size w wx)
  case first =>
    by_cases he : 0 < e
    · have HS := Lib.hid (show stOf s.data.toList = nne (s.data.toList.take e) [60] by unfold stOf; rw [← HE.out, if_pos he])
      have HN := Lib.hid (show enOf s.data.toList = lb (s.data.toList.take (e + 1)) 62 by unfold enOf; rw [← HE.out, if_pos he])
      have hex := Lib.hid (take_ext s e)
      have hex1 := Lib.hid (take_ext s (e + 1))
      have e1 : IntKind.i64.wrap ((e : Int) + 1) = (e : Int) + 1 := IntWalk.i64_in _ (by omega)
      have e2 : (0 : Int) ≤ (e : Int) + 1 := by omega
      have e3 : ((e : Int) + 1).toNat = e + 1 := by omega
      have e4 : (e : Int) + 1 ≤ (s.size : Int) := by omega
      have e5 : (e : Int) ≤ (s.size : Int) := by omega
      go_upto_region 17 with fail
      go_region_with (first | (go_at_call 71; refine (chars71 _).mono ?_; rintro e w2 ⟨g2, cap2, rfl, hc2, _, hg2, hb2⟩) | (go_at_call 64; refine (nne_any _ g2 0 cap2 [60] _ (by simp; omega) (by decide) (by assumption)).mono ?_; rintro e w2' ⟨rfl, rfl⟩; rw [hex.out, ← HS.out]))
      all_goals
        go_upto_region 18 with fail
        go_region_with (first | (go_at_call 73; refine (chars73 _).mono ?_; rintro e w3 ⟨g3, cap3, rfl, hc3, _, hg3, hb3⟩) | (go_at_call 72; refine (last_any _ g3 0 cap3 62 _ (by simp; omega) (by assumption)).mono ?_; rintro e w3' ⟨rfl, rfl⟩; rw [hex1.out, ← HN.out]))
        all_goals
          go_wp2_with fail
          go_meet
          case rel => exact ⟨rfl, rfl, (HB.out.drew.trans (hb2.mono HB.out.size)).drew.trans (hb3.mono (Nat.le_trans HB.out.size hb2.size))⟩
    · obtain rfl : e = 0 := by omega
      have HS := Lib.hid (show stOf s.data.toList = none by unfold stOf; rw [← HE.out, if_neg (by omega)])
      have HN := Lib.hid (show enOf s.data.toList = none by unfold enOf; rw [← HE.out, if_neg (by omega)])
      go_wp2
      go_meet
      case rel => exact ⟨by rw [HS.out]; rfl, by rw [HN.out]; rfl, HB.out⟩
  case rest =>
  obtain ⟨rfl, rfl, hb⟩ := hcut
  clear HB
  have HB := Lib.hid hb
  clear hb
  have e1 : IntKind.i64.wrap ((e : Int) + 1) = (e : Int) + 1 := IntWalk.i64_in _ (by omega)
  have hex1 := Lib.hid (take_ext s (e + 1))
  go_upto_region 22 with (first | (go_at_call 74; refine (trimmed_any _ _ (by simp; omega)).mono ?_; rintro e w2 ⟨rfl, rfl⟩; rw [hex1.out]) | (go_at_call 51; refine (unesc_any _ _ (by have := trimmed_le (s.data.toList.take (e + 1)); simp at this; simp [bs_size]; omega)).mono ?_; rintro e w3 ⟨rfl, hb3⟩; rw [bs_data]))
  have HB3 := Lib.hid (HB.out.trans (hb3.mono HB.out.size))
  clear HB hb3
  have hlen : (unesc (trimmed (s.data.toList.take (e + 1)))).length ≤ 1000000000 := by
    have h1 := trimmed_le (s.data.toList.take (e + 1))
    have h2 := List.length_filter_le (· != 92) (trimmed (s.data.toList.take (e + 1)))
    rw [List.length_take] at h1
    rw [HL.out] at h1
    show (List.filter (· != 92) _).length ≤ _
    omega
  obtain ⟨nm, hnm⟩ : ∃ nm, nm = unesc (trimmed (s.data.toList.take (e + 1))) := ⟨_, rfl⟩
  rw [← hnm] at hlen
  rw [← hnm]
  have HNM := Lib.hid hnm
  clear hnm
  have hzl : z < s.size ∧ z ≤ e := by
    have h1 := HEN.out
    unfold enOf at h1
    split at h1
    · have h2 := lb_lt h1
      rw [List.length_take, HL.out, ← HE.out] at h2
      omega
    · cases h1
  have hzs := hzl.1
  clear hzl
  go_cut [9, 10, 14] from 75 to 87 (fun x y v wx => x = .int .i64 a ∧ y = .int .i64 z ∧ v = .bool true ∧ Below w.heap.size w wx)
  case first =>
    rw [HST.out, HEN.out, oi_some, oi_some]
    have hbn : ((a : Int) != -1) = true := by simp [bne_iff_ne]
    have hbn2 : ((z : Int) != -1) = true := by simp [bne_iff_ne]
    go_wp2
    go_meet
    case rel => exact ⟨rfl, rfl, rfl, HB3.out⟩
  case rest =>
  obtain ⟨rfl, rfl, rfl, hb⟩ := hcut
  clear HB3
  have HB := Lib.hid hb
  clear hb
  obtain ⟨i84, hi84, hz84, hz841, hz842⟩ := info_parts info84
  have hmk : ∀ W : World, (Instr.makeSlice 97 (.int .i64 0) (.int .i64 1)).run Tryz.prog W = .ok (.slice (some ⟨W.heap.size, 0, none⟩) 0 1) (W.alloc (.cells #[.pointer none] 84)) := fun W => by
    have h := run_make (P := Tryz.prog) W 97 84 i84 (.pointer none) Tryz.underlying97 hi84 hz84 .i64 .i64 0 1 (by omega) (by omega) (by rw [hz842]; omega) (by omega)
    rw [hz841, show madeCells (Value.pointer none).cells (Int.toNat 1 * 1) = #[.pointer none] by kernel_rfl] at h
    exact h
  obtain ⟨cs, hcs⟩ : ∃ cs, cs = s.extract (a + 1) z := ⟨_, rfl⟩
  have hcsd : cs.data.toList = (s.data.toList.drop (a + 1)).take (z - (a + 1)) := by rw [hcs, extract_range]
  have hcsz : cs.size ≤ 1000000000 := by rw [← size_data, hcsd, List.length_take, List.length_drop, HL.out]; omega
  rw [← hcsd] at HSP
  go_upto_region 25 with fail
  rw [← hcs]
  have hcl : c.length ≤ 1000000000 := by rw [split_one HSP.out, size_data]; exact hcsz
  clear hcs hcsd
  go_wp2_with (first
    | (go_at_call 76; refine (chars76 _).mono ?_; rintro e w2 ⟨g2, cap2, rfl, hc2, _, hg2, hb2⟩; have hcv : (convert 23 9 (.slice (some ⟨g2, 0, none⟩) 1 cap2)).run Tryz.prog w2 = .ok (.string (bs [59])) w2 := conv_back cap2 hc2)
    | (go_at_call 75; refine (split_any cs 59 _ hcsz).mono ?_; rintro e w3 ⟨v3, rfl, hown3, hb3⟩; rw [HSP.out] at hown3; obtain ⟨g3, cap3, rfl, hg3a, hg3b, hcells3⟩ := own_some hown3 (by simp); have hc3 := hcells3 0 _ rfl))
  obtain ⟨Wm, hWm⟩ : ∃ Wm, Wm = w3.alloc (.cells #[.pointer none] 84) := ⟨_, rfl⟩
  rw [← hWm]
  have hbm : Below w3.heap.size w3 Wm := by rw [hWm]; exact (Below.refl _ _).alloc (Nat.le_refl _) _
  have hzm : Wm.heap.size = w3.heap.size + 1 := by rw [hWm]; simp
  have hc3m : Wm.cell? ⟨g3, 0, none⟩ = some (.string (bs c)) := (hbm.cell (p := ⟨g3, 0, none⟩) hg3b).trans hc3
  have howm : Wm.ownsRow (w3.heap.size) 84 1 (.slice (some ⟨w3.heap.size, 0, none⟩) 0 1) 0 [] := by rw [hWm]; exact World.ownsRow_made w3 #[.pointer none] 1 (Nat.le_refl _) (by simp [maxLen]) rfl
  have hbase : w.heap.size ≤ w3.heap.size := by have := HB.out.size; have := hb2.size; have := hb3.size; omega
  have HBM := Lib.hid (HB.out.trans ((hb2.mono HB.out.size).trans ((hb3.mono (Nat.le_trans HB.out.size hb2.size)).trans (hbm.mono hbase))))
  have HOWM := Lib.hid howm
  clear hb2 hb3 hbm hc2 hcv hown3 hcells3 hc3 howm hmk hWm
  refine wp_loop_rounds 2 ?_
  rw [rounds_succ]
  go_upto_block 2 with fail
  go_cut [13, 18, 19, 20, 21] from 105 to 200 (fun a13 _ _ _ _ wx => ∃ k d, wx.ownsRow w.heap.size 84 1 a13 1 (ptrs [k]) ∧ w.heap.size ≤ k ∧ wx.heap[k]? = some (.cells #[.int .i16 con.id, d] 66 (0, 0)) ∧ wx.ownsRow w.heap.size 9 1 d con.data.length (svals con.data) ∧ Below w.heap.size w wx)
  case first =>
    go_upto_region 32 with (first
      | (go_at_call 77; refine (chars77 _).mono ?_; rintro e w5 ⟨g5, cap5, rfl, hc5, _, hg5, hb5⟩)
      | (go_at_call 64; refine (nne_any (bs c) g5 0 cap5 [40] _ (by rw [bs_size]; omega) (by decide) (by assumption)).mono ?_; rintro e w5' ⟨rfl, rfl⟩; rw [bs_data])
      | (go_at_call 78; refine (chars78 _).mono ?_; rintro e w6 ⟨g6, cap6, rfl, hc6, _, hg6, hb6⟩)
      | (go_at_call 72; refine (last_any (bs c) g6 0 cap6 41 _ (by rw [bs_size]; omega) (by assumption)).mono ?_; rintro e w6' ⟨rfl, rfl⟩; rw [bs_data]))
    have hb56 : Below Wm.heap.size Wm w6 := hb5.trans (hb6.mono hb5.size)
    have howm6 := own_below HOWM.out hb56
    have HOW6 := Lib.hid howm6
    have HB6 := Lib.hid (HBM.out.trans (hb56.mono HBM.out.size))
    have hz6 : w3.heap.size + 1 ≤ w6.heap.size := by have := hb56.size; omega
    clear hb5 hb6 hb56 hc5 hc6 howm6
    obtain ⟨b0, hb0⟩ : ∃ b0, b0 = ((nne c [40]).isSome && (lb c 41).isSome) := ⟨_, rfl⟩
    have HB0 := Lib.hid hb0
    clear hb0
    go_cut [19, 20, 118] from 107 to 118 (fun x y v wx => x = .int .i64 (oi (nne c [40])) ∧ y = .int .i64 (oi (lb c 41)) ∧ v = .bool b0 ∧ w6 = wx)
    case first =>
      cases hn : nne c [40] with
      | none =>
        have HNN := Lib.hid hn
        have HQ := Lib.hid (show b0 = false by rw [HB0.out, hn]; rfl)
        rw [oi_none]
        clear hn
        go_wp2
        go_meet
        case rel => exact ⟨by first | rfl | (rw [HNN.out]; rfl), rfl, by rw [HQ.out], rfl⟩
      | some k1 =>
        have HNN := Lib.hid hn
        have h1 : ((k1 : Int) != -1) = true := by simp [bne_iff_ne]
        cases hl : lb c 41 with
        | none =>
          have HLL := Lib.hid hl
          have HQ := Lib.hid (show b0 = false by rw [HB0.out, hl]; simp)
          rw [oi_none, oi_some]
          clear hn hl
          go_wp2
          go_meet
          case rel => exact ⟨by first | rfl | (rw [HNN.out]; rfl), by first | rfl | (rw [HLL.out]; rfl), by rw [HQ.out], rfl⟩
        | some k2 =>
          have HLL := Lib.hid hl
          have h2 : ((k2 : Int) != -1) = true := by simp [bne_iff_ne]
          have HQ := Lib.hid (show b0 = true by rw [HB0.out, hn, hl]; rfl)
          rw [oi_some, oi_some]
          clear hn hl
          go_wp2
          go_meet
          case rel => exact ⟨by first | rfl | (rw [HNN.out]; rfl), by first | rfl | (rw [HLL.out]; rfl), by rw [HQ.out], rfl⟩
    case rest =>
    obtain ⟨rfl, rfl, rfl, rfl⟩ := hcut
    rcases HONE.out with ⟨hn, hcon⟩ | ⟨st, en, d, hn, hl, hle, h15, hd, hcon⟩
    · have HQ := Lib.hid (show b0 = false by rw [HB0.out, hn]; rfl)
      have HCON := Lib.hid hcon
      have hfalse := HQ.out
      clear hn hcon
      subst hfalse
      go_wp2_with (first
        | (go_at_call 79; refine (ctype_any (bs c) _).mono ?_; rintro e w7 ⟨rfl, rfl⟩; rw [bs_data])
        | (at_builtin; refine wpList_append_own _ rfl (.tmp 193) (.tmp 199) 97 rfl w3.heap.size 84 i84 (.pointer none) 1 8 Tryz.underlying97 hi84 hz84 hz841 hz842 rfl (by decide) _ _ _ (by rfl) (((HOW6.out.alloc _).alloc _).alloc _) ⟨w6.heap.size + 1 + 1, 0, none⟩ 1 1 (ptrs [w6.heap.size + 1]) (by rfl) rfl (by intro j y hy; rw [add_cell, Nat.zero_add]; simp [cell_alloc, objCell]; simpa [ptrs] using hy) (ptrs_one1 _) (by simp [maxLen]) (by omega) (by simp; omega) ?_; intro v' w8 hown' hgrow hnil'))
      have hlt' := fun k' h => ((((HOW6.out.alloc (.cells #[] 9)).alloc (.cells #[.int .i16 (ctype c), .slice (some ⟨w6.heap.size, 0, none⟩) 0 0] 66)).alloc (.cells #[.pointer (some ⟨w6.heap.size + 1, 0, none⟩)] 84)).lt (k := k') h).1
      have hbw := (((HB6.out.alloc (by omega) (.cells #[] 9)).alloc (by simp; omega) (.cells #[.int .i16 (ctype c), .slice (some ⟨w6.heap.size, 0, none⟩) 0 0] 66)).alloc (by simp; omega) (.cells #[.pointer (some ⟨w6.heap.size + 1, 0, none⟩)] 84)).grown hgrow (by simp; omega) (fun k' h => Nat.le_trans hbase (hlt' k' h))
      have s1 : (w6.alloc (.cells #[] 9)).heap.size = w6.heap.size + 1 := by simp
      have hk1 := (hgrow.block (w6.heap.size + 1) (by simp) (by simp [Value.ownBlock]; omega)).trans ((Below.heap_alloc _ _ _ (by simp)).trans (by rw [← s1, heap_alloc_new]))
      have hk0 := (hgrow.block w6.heap.size (by simp; omega) (by simp [Value.ownBlock]; omega)).trans ((Below.heap_alloc _ _ _ (by simp; omega)).trans ((Below.heap_alloc _ _ _ (by simp)).trans (heap_alloc_new w6 _)))
      go_meet
      case rel =>
        refine ⟨w6.heap.size + 1, .slice (some ⟨w6.heap.size, 0, none⟩) 0 0, ?_, by omega, ?_, ?_, hbw⟩
        · have h := own_base hown' hbase
          simpa using h
        · rw [HCON.out]; exact hk1
        · rw [HCON.out]
          exact ⟨rfl, .inr ⟨w6.heap.size, 0, #[], rfl, by omega, hk0, Nat.le_refl _, by simp [maxLen], rfl, rfl⟩⟩
    · have HQ := Lib.hid (show b0 = true by rw [HB0.out, hn, hl]; rfl)
      have HCON := Lib.hid hcon
      have htrue := HQ.out
      have hstl : st < c.length := nne_lt hn
      have henl : en < c.length := lb_lt hl
      have HD := Lib.hid hd
      have h15b : (ctype (c.take st) != 15) = true := by rw [bne_iff_ne]; exact h15
      rw [hn, hl, oi_some, oi_some]
      have hx0 : ((bs c).extract 0 st).data.toList = c.take st := by rw [take_ext, bs_data]
      have HX0 := Lib.hid hx0
      have hx1 : ((bs c).extract (st + 1) en).data.toList = (c.drop (st + 1)).take (en - (st + 1)) := by rw [extract_range, bs_data]
      have HX1 := Lib.hid hx1
      clear hn hl hcon hd h15 hx0 hx1
      subst htrue
      go_upto_region 35 with (go_at_call 79; refine (ctype_any _ _).mono ?_; rintro e w7 ⟨rfl, rfl⟩; rw [HX0.out])
      obtain ⟨id, hid⟩ : ∃ id, id = ctype (c.take st) := ⟨_, rfl⟩
      rw [← hid]
      rw [← hid] at HCON
      clear hid h15b
      have i1 : (st : Int) + 1 ≤ (en : Int) := by omega
      have i2 : (en : Int) ≤ (c.length : Int) := by omega
      have i3 : (0 : Int) ≤ (st : Int) + 1 := by omega
      have i4 : ((st : Int) + 1).toNat = st + 1 := by omega
      have i5 : IntKind.i64.wrap ((st : Int) + 1) = (st : Int) + 1 := IntWalk.i64_in _ (by omega)
      have i6 : en ≤ c.length := by omega
      obtain ⟨X, hX⟩ : ∃ X, X = w6.alloc (.cells #[.int .i16 id, .slice none 0 0] 66) := ⟨_, rfl⟩
      rw [← hX]
      have hbx : Below w6.heap.size w6 X := by rw [hX]; exact (Below.refl _ _).alloc (Nat.le_refl _) _
      have hxo : X.heap[w6.heap.size]? = some (.cells #[.int .i16 id, .slice none 0 0] 66 (0, 0)) := by rw [hX, heap_alloc_new]
      have hxz : X.heap.size = w6.heap.size + 1 := by rw [hX]; simp
      clear hX
      go_region_with (first
        | (go_at_call 80; refine (chars80 _).mono ?_; rintro e w7 ⟨g7, cap7, rfl, hc7, _, hg7, hb7⟩; have hcv7 : (convert 23 9 (.slice (some ⟨g7, 0, none⟩) 1 cap7)).run Tryz.prog w7 = .ok (.string (bs [44])) w7 := conv_back cap7 hc7)
        | (go_at_call 75; refine (split_any _ 44 _ (by simp; omega)).mono ?_; rintro e w9 ⟨v9, rfl, hown9, hb9⟩; rw [HX1.out, HD.out] at hown9; have hx9 := (hb9.block w6.heap.size (by have := hb7.size; simp at this; omega)).trans ((hb7.block w6.heap.size (by simp; omega)).trans hxo); have k90 := obj_cell (i := 0) hx9 rfl; have k91 := obj_cell (i := 1) hx9 rfl; have f91 := obj_free (i := 1) hx9; obtain ⟨g9, cap9, cur9, rfl, hg9a, hobj9, hg9c, hg9d, hg9e, hg9f⟩ := own_obj hown9 (by simp)))
      have hz7 : w6.heap.size + 1 ≤ w7.heap.size := by have := hb7.size; simp at this; omega
      obtain ⟨w10, hw10⟩ : ∃ w10, w10 = w9.setCell ⟨w6.heap.size, 1, none⟩ (.slice (some ⟨g9, 0, none⟩) 1 cap9) := ⟨_, rfl⟩
      rw [← hw10]
      have hx10 : w10.heap[w6.heap.size]? = some (.cells #[.int .i16 id, .slice (some ⟨g9, 0, none⟩) 1 cap9] 66 (0, 0)) := by rw [hw10]; exact obj_set (i := 1) _ hx9
      have ho10 : w10.heap[g9]? = some (.cells cur9 9 (0, 0)) := by rw [hw10, Below.heap_setCell _ ⟨w6.heap.size, 1, none⟩ _ _ (by show g9 ≠ w6.heap.size; omega)]; exact hobj9
      have hc9 : cur9[0]? = some (.string (bs d)) := by
        have h1 : cur9.toList.take 1 = [.string (bs d)] := hg9f
        have h2 : (cur9.toList.take 1)[0]? = some (.string (bs d)) := by rw [h1]; rfl
        rw [List.getElem?_take_of_lt (by omega)] at h2
        simpa using h2
      have hdl : d.length ≤ 1000000000 := by rw [split_one HD.out, List.length_take, List.length_drop]; omega
      have k100 := obj_cell (i := 0) hx10 rfl
      have k101 := obj_cell (i := 1) hx10 rfl
      have r100 := obj_cell (i := 0) ho10 hc9
      have HW10 := Lib.hid hw10
      have hbig9 : Below w.heap.size w w9 := HB6.out.trans ((hbx.mono (by omega)).trans (((show Below X.heap.size X w7 from undrew hb7).mono (by omega)).trans (hb9.mono (by omega))))
      have hown39 : w9.ownsRow w3.heap.size 84 1 (.slice (some ⟨w3.heap.size, 0, none⟩) 0 1) 0 [] := own_below (own_below (own_below HOW6.out hbx) (show Below X.heap.size X w7 from undrew hb7)) hb9
      have hbig10 : Below w.heap.size w w10 := by rw [hw10]; exact hbig9.setCell (p := ⟨w6.heap.size, 1, none⟩) (by show w.heap.size ≤ w6.heap.size; omega) _
      have hown310 : w10.ownsRow w3.heap.size 84 1 (.slice (some ⟨w3.heap.size, 0, none⟩) 0 1) 0 [] := own_keep hown39 fun k hk => by rw [hw10]; exact Below.heap_setCell _ ⟨w6.heap.size, 1, none⟩ _ _ (by simp [Value.ownBlock] at hk; show k ≠ w6.heap.size; omega)
      have HBIG := Lib.hid hbig10
      have HOWN3 := Lib.hid hown310
      clear hw10 hbig9 hown39 hbig10 hown310 hcv7 hc7 hb7 hb9 hown9 hx9 hobj9 k90 k91 f91 hxo hbx hxz hg9f HX0 HX1 HD
      have HX10 := Lib.hid hx10
      have HO10 := Lib.hid ho10
      clear hx10 ho10
      go_upto_if 146 with fail
      go_cut [21] from 147 to 188 (fun b wx => b = .pointer (some ⟨w6.heap.size, 0, none⟩) ∧ wx.heap[w6.heap.size]? = some (.cells #[.int .i16 id, .slice (some ⟨g9, 0, none⟩) 1 cap9] 66 (0, 0)) ∧ wx.ownsRow w.heap.size 9 1 (.slice (some ⟨g9, 0, none⟩) 1 cap9) 1 (svals [unesc d]) ∧ wx.ownsRow w3.heap.size 84 1 (.slice (some ⟨w3.heap.size, 0, none⟩) 0 1) 0 [] ∧ Below w.heap.size w wx)
      case first =>
        go_upto_region 37 with fail
        go_region_with (go_at_call 51; refine (unesc_any (bs d) _ (by rw [bs_size]; omega)).mono ?_; rintro e w11 ⟨rfl, hb11⟩; rw [bs_data]; have hx11 := (hb11.block w6.heap.size (by show w6.heap.size < w10.heap.size; exact (Array.getElem?_eq_some_iff.1 HX10.out).1)).trans HX10.out; have ho11 := (hb11.block g9 (by show g9 < w10.heap.size; exact (Array.getElem?_eq_some_iff.1 HO10.out).1)).trans HO10.out; have k110 := obj_cell (i := 0) hx11 rfl; have k111 := obj_cell (i := 1) hx11 rfl; have r110 := obj_cell (i := 0) ho11 hc9; have fr11 := obj_free (i := 0) ho11)
        all_goals
          have hb11' : Below w10.heap.size w10 w11 := undrew hb11
          have HX11 := Lib.hid hx11
          have HO11 := Lib.hid ho11
          have HB11 := Lib.hid hb11'
          clear hx11 ho11 hb11 hb11' k110 k111 r110 fr11
          go_wp2_with fail
          go_meet
          case rel =>
            refine ⟨rfl, (Below.heap_setCell _ ⟨g9, 0, none⟩ _ _ (by show w6.heap.size ≠ g9; omega)).trans HX11.out, ⟨rfl, .inr ⟨g9, cap9, cur9.setIfInBounds 0 (.string (bs (unesc d))), rfl, by omega, obj_set (i := 0) _ HO11.out, hg9c, hg9d, by rw [Array.size_setIfInBounds]; exact hg9e, set_first hg9e hg9c⟩⟩, ?_, (HBIG.out.trans (HB11.out.mono HBIG.out.size)).setCell (p := ⟨g9, 0, none⟩) (by show w.heap.size ≤ g9; omega) _⟩
            exact own_keep (own_below HOWN3.out HB11.out) fun k hk => Below.heap_setCell _ ⟨g9, 0, none⟩ _ _ (by simp [Value.ownBlock] at hk; show k ≠ g9; omega)
      case rest =>
      obtain ⟨rfl, hbox, hrow, hown3, hbig⟩ := hcut
      have HBOX := Lib.hid hbox
      have HROW := Lib.hid hrow
      have HOWN4 := Lib.hid hown3
      have HBG := Lib.hid hbig
      have hzc : w3.heap.size < wc.heap.size := by have := (hown3.lt w3.heap.size rfl).2; exact this
      clear hbox hrow hown3 hbig
      go_wp2_with (at_builtin; refine wpList_append_own _ rfl (.tmp 189) (.tmp 191) 97 rfl w3.heap.size 84 i84 (.pointer none) 1 8 Tryz.underlying97 hi84 hz84 hz841 hz842 rfl (by decide) _ _ _ (by rfl) (HOWN4.out.alloc _) ⟨wc.heap.size, 0, none⟩ 1 1 (ptrs [w6.heap.size]) (by rfl) rfl (by intro j y hy; rw [add_cell, Nat.zero_add]; simp [cell_alloc, objCell]; simpa [ptrs] using hy) (ptrs_one1 _) (by simp [maxLen]) (by omega) (by simp; omega) ?_; intro v' w8 hown' hgrow hnil')
      have hlt' := fun k' h => ((HOWN4.out.alloc (.cells #[.pointer (some ⟨w6.heap.size, 0, none⟩)] 84)).lt (k := k') h).1
      have hbw := (HBG.out.alloc (by omega) (.cells #[.pointer (some ⟨w6.heap.size, 0, none⟩)] 84)).grown hgrow (by simp; omega) (fun k' h => Nat.le_trans hbase (hlt' k' h))
      have hlb := (Array.getElem?_eq_some_iff.1 HBOX.out).1
      have hk1 := (hgrow.block w6.heap.size (by simp; omega) (by simp [Value.ownBlock]; omega)).trans ((Below.heap_alloc wc _ _ hlb).trans HBOX.out)
      have hrw := (HROW.out.alloc (.cells #[.pointer (some ⟨w6.heap.size, 0, none⟩)] 84)).kept hgrow (.inr (by simp [Value.ownBlock]; omega))
      go_meet
      case rel =>
        refine ⟨w6.heap.size, .slice (some ⟨g9, 0, none⟩) 1 cap9, ?_, by omega, ?_, ?_, hbw⟩
        · have h := own_base hown' hbase
          simpa using h
        · rw [HCON.out]; exact hk1
        · rw [HCON.out]; exact hrw
  case rest =>
  obtain ⟨kk, dd, hrow, hkk, hkobj, hdrow, hbig⟩ := hcut
  have HROW := Lib.hid hrow
  have HKO := Lib.hid hkobj
  have HDR := Lib.hid hdrow
  have HBG := Lib.hid hbig
  obtain ⟨ra, rcap, rfl⟩ := own_form hrow
  clear hrow hkobj hdrow hbig
  have hexa := Lib.hid (take_ext s a)
  have e7 : (0 : Int) ≤ (a : Int) := by omega
  have e8 : a ≤ s.size := by omega
  have e9 : (a : Int) ≤ (s.size : Int) := by omega
  have hs58 : s[0]'h0 = 58 := by
    have h1 := HHEAD.out
    rw [hhd.out] at h1
    exact Option.some.inj h1
  have hwf : wild = false := by rw [← HWI.out, hs58]; rfl
  have hpf : plus = false := by rw [← HPI.out, hs58]; rfl
  clear HWI HPI hs58
  subst hwf
  subst hpf
  have htl : (trimmed (s.data.toList.take a)).length ≤ 1000000000 := by
    have h1 := trimmed_le (s.data.toList.take a)
    rw [List.length_take, HL.out] at h1
    omega
  have hq63 := Lib.hid (show (((s[e]'hle).toNat : Int) == 63) = decide (s.data.toList[paramEnd s.data.toList]? = some 63) by
    rw [← HE.out, byte_at s e hle, u8_beq _ 63 63 rfl, Bool.eq_iff_iff]; simp)
  go_wp2_with fail
  rw [rounds_succ]
  go_upto_region 45 with (first
    | (go_at_call 74; refine (trimmed_any _ _ (by simp; omega)).mono ?_; rintro e w8 ⟨rfl, rfl⟩; rw [hexa.out])
    | (go_at_call 51; refine (unesc_any _ _ (by rw [bs_size]; omega)).mono ?_; rintro e w9 ⟨rfl, hb9⟩; rw [bs_data]))
  obtain ⟨nm2, hnm2⟩ : ∃ nm2, nm2 = unesc (trimmed (s.data.toList.take a)) := ⟨_, rfl⟩
  rw [← hnm2]
  have HNM2 := Lib.hid hnm2
  clear hnm2
  have HB9 := Lib.hid (HBG.out.trans (hb9.mono HBG.out.size))
  have HKO9 := Lib.hid ((hb9.block kk (Array.getElem?_eq_some_iff.1 HKO.out).1).trans HKO.out)
  have HROW9 := Lib.hid (own_below HROW.out hb9)
  have HDR9 := Lib.hid (own_below HDR.out hb9)
  have hpo := (HB9.out.block P (lt_of_obj HP.out)).trans HP.out
  have HPO := Lib.hid hpo
  clear hb9 hpo
  go_wp2_with fail
  have HH := Lib.hid (po_none (p := s.data.toList) (st := stars) (pl := pluses) (nm := nm2) (cons := [con]) (by rw [HHEAD.out]; decide) (by rw [HHEAD.out]; decide))
  go_ret2
  rw [← HNM2.out, HH.out, ← HE.out]
  have hq := hq63.out
  rw [← HE.out] at hq
  rw [hq]
  refine cast_part ?_ (fin_con rfl (grown_of HB9.out) HPO.out HROW9.out hkk HKO9.out HDR9.out)
  rw [← take_bs]
  exact ⟨rfl, rfl⟩
end Go.Proofs.YtiebedcldbmlhaaGreatDoor
