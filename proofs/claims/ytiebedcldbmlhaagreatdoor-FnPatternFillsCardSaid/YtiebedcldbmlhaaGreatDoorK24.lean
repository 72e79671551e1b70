/-
  Joined: analyseParameterPart, of any text of at least one byte that bears no constraint.
  Conditions: each law's own.
-/
import Derived.Test.YtiebedcldbmlhaaGreatDoorK23
import Derived.Test.YtiebedcldbmlhaaGreatDoorK21
import Derived.Lib.AppendIntMem
import Derived.Lib.ItoaLen
import Derived.Deep.DeepCutAuto
import Derived.Deep.CutBlock
namespace Go.Proofs.YtiebedcldbmlhaaGreatDoor
open Go.RowKit
set_option linter.unusedVariables false

/-- The constraints of a segment: their blocks are of number 'base' on, and none of them is the segment's. -/
def ConAt (w : World) (base g : Nat) (k : Nat) (c : Con) : Prop :=
  base ≤ k ∧ k ≠ g ∧ ∃ d, w.heap[k]? = some (.cells #[.int .i16 c.id, d] 66 (0, 0)) ∧ w.ownsRow base 9 1 d c.data.length (svals c.data) ∧ d.ownBlock ≠ some g
def ptrs (ks : List Nat) : List Value := ks.map fun k => .pointer (some ⟨k, 0, none⟩)
def ConsAt (w : World) (base g : Nat) (v : Value) (cons : List Con) : Prop :=
  ∃ ks : List Nat, ks.length = cons.length ∧ w.ownsRow base 84 1 v ks.length (ptrs ks) ∧ v.ownBlock ≠ some g ∧ ∀ (i : Nat) (c : Con), cons[i]? = some c → ∃ k : Nat, ks[i]? = some k ∧ ConAt w base g k c

/-- Where a parameter's name ends, before the tests on its first sign. -/
def endA (p : Bs) : Int := if p.contains 60 && p.contains 62 then nextCon (p.drop 1) ends else oi (nne (p.drop 1) ends)

theorem fb_lt {s : Bs} {c : UInt8} {k : Nat} (h : fb s c = some k) : k < s.length := findIdx_lt h
theorem conStep_lt (s : Bs) (a b n : Int) (c : UInt8) (h : -1 ≤ n ∧ n < max s.length 1) : -1 ≤ conStep s a b n c ∧ conStep s a b n c < max s.length 1 := by
  unfold conStep
  split
  · split
    · refine ⟨oi_ge _, ?_⟩
      cases hf : fb s c with
      | none => simp [oi]; omega
      | some k => have := fb_lt hf; simp [oi]; omega
    · exact h
  · exact h
theorem nextCon_range (s cs : Bs) : -1 ≤ nextCon s cs ∧ nextCon s cs < max s.length 1 := by
  unfold nextCon
  generalize oi (nne s [60]) = a
  generalize oi (nne s [62]) = b
  have : ∀ (l : Bs) (n : Int), -1 ≤ n ∧ n < max s.length 1 → -1 ≤ l.foldl (conStep s a b) n ∧ l.foldl (conStep s a b) n < max s.length 1 := by
    intro l
    induction l with
    | nil => intro n h; exact h
    | cons c l ih => intro n h; exact ih _ (conStep_lt s a b n c h)
  exact this cs (-1) (by omega)
theorem conStep_some (s : Bs) (a b n : Int) (c : UInt8) (h : n < s.length) : conStep s a b n c < s.length := by
  unfold conStep
  split
  · split
    · rename_i h1 h2
      cases hf : fb s c with
      | none => rw [hf] at h1; simp [oi] at h1
      | some k => have := fb_lt hf; simp [oi]; omega
    · exact h
  · exact h
theorem nextCon_lt (s cs : Bs) (h0 : 0 < s.length) : nextCon s cs < s.length := by
  unfold nextCon
  generalize oi (nne s [60]) = a
  generalize oi (nne s [62]) = b
  have : ∀ (l : Bs) (n : Int), n < s.length → l.foldl (conStep s a b) n < s.length := by
    intro l
    induction l with
    | nil => intro n h; exact h
    | cons c l ih => intro n h; exact ih _ (conStep_some s a b n c h)
  exact this cs (-1) (by omega)
theorem nextCon_nil (cs : Bs) : nextCon [] cs = -1 := by
  have := nextCon_range [] cs
  unfold nextCon
  have hz : ∀ (l : Bs) (a b : Int), l.foldl (conStep [] a b) (-1) = -1 := by
    intro l a b
    induction l with
    | nil => rfl
    | cons c l ih => simp only [List.foldl_cons]; rw [show conStep [] a b (-1) c = -1 by unfold conStep; simp [fb, oi]]; exact ih
  exact hz cs _ _

theorem endA_range (p : ByteArray) (h : 0 < p.size) : -1 ≤ endA p.data.toList ∧ endA p.data.toList + 1 < p.size := by
  unfold endA
  split
  · refine ⟨(nextCon_range _ _).1, ?_⟩
    by_cases h1 : p.size = 1
    · have : p.data.toList.drop 1 = [] := List.drop_of_length_le (by rw [size_data]; omega)
      rw [this, nextCon_nil]; omega
    · have := nextCon_lt (p.data.toList.drop 1) ends (by rw [List.length_drop, size_data]; omega)
      rw [List.length_drop, size_data] at this
      omega
  · refine ⟨oi_ge _, ?_⟩
    cases hn : nne (p.data.toList.drop 1) ends with
    | none => simp [oi]; omega
    | some k =>
      have := nne_lt hn
      rw [List.length_drop, size_data] at this
      simp [oi]; omega

theorem trimmed_le (l : Bs) : (trimmed l).length ≤ l.length := by
  unfold trimmed
  split
  · simp
  · split
    · split
      · simp; omega
      · simp
    · simp
theorem lt_of_obj {w : World} {g : Nat} {o : Obj} (h : w.heap[g]? = some o) : g < w.heap.size := (Array.getElem?_eq_some_iff.1 h).1
theorem head_of (s : ByteArray) (h : 0 < s.size) : s.data.toList.head? = some (s[0]'h) := by
  rw [data_cons s h]; rfl
theorem pe_greedy {p : Bs} (h : p.head? = some 42 ∨ p.head? = some 43) : paramEnd p = 0 := by unfold paramEnd; rw [if_pos h]
theorem pe_eq {p : Bs} (h : ¬ (p.head? = some 42 ∨ p.head? = some 43)) : paramEnd p = if endA p = -1 then p.length - 1 else if delims.contains (p.getD ((endA p).toNat + 1) 0) then (endA p).toNat else (endA p).toNat + 1 := by
  unfold paramEnd; rw [if_neg h]; rfl
theorem pe_last {p : Bs} (h : ¬ (p.head? = some 42 ∨ p.head? = some 43)) (he : endA p = -1) : paramEnd p = p.length - 1 := by rw [pe_eq h, if_pos he]
theorem pe_mid {s : ByteArray} (h : ¬ (s.data.toList.head? = some 42 ∨ s.data.toList.head? = some 43)) {k : Nat} (he : endA s.data.toList = k) (hk : k + 1 < s.size) :
    paramEnd s.data.toList = if delims.contains (s[k + 1]'hk) then k else k + 1 := by
  rw [pe_eq h, he, if_neg (by omega)]
  have : s.data.toList.getD ((k : Int).toNat + 1) 0 = s[k + 1]'hk := by
    simp only [Int.toNat_natCast, List.getD, byte_at s (k + 1) hk]; rfl
  rw [this]
  simp

theorem take_ext (s : ByteArray) (k : Nat) : (s.extract 0 k).data.toList = s.data.toList.take k := by rw [extract_range]; simp
theorem paramEnd_lt (s : ByteArray) (h : 0 < s.size) : paramEnd s.data.toList < s.size := by
  by_cases hh : s.data.toList.head? = some 42 ∨ s.data.toList.head? = some 43
  · rw [pe_greedy hh]; exact h
  · have hr := endA_range s h
    by_cases hm : endA s.data.toList = -1
    · rw [pe_last hh hm, size_data]; omega
    · obtain ⟨k, hk⟩ : ∃ k : Nat, endA s.data.toList = k := ⟨(endA s.data.toList).toNat, by omega⟩
      rw [pe_mid hh hk (by omega)]
      split <;> omega
/-- Where a parameter's constraints begin and end. -/
def stOf (p : Bs) : Option Nat := if 0 < paramEnd p then nne (p.take (paramEnd p)) [60] else none
def enOf (p : Bs) : Option Nat := if 0 < paramEnd p then lb (p.take (paramEnd p + 1)) 62 else none

/-- What a parameter's part is, its name and its constraints known. -/
def partOf (p : Bs) (stars pluses : Nat) (nm : Bs) (cons : List Con) : Bs × Seg × Nat × Nat :=
  let wild := p.head? = some 42
  let plus := p.head? = some 43
  (p.take (paramEnd p + 1), { const := [], isParam := true, name := if wild then nm ++ Go.Lib.itoa (stars + 1 : Nat) else if plus then nm ++ Go.Lib.itoa (pluses + 1 : Nat) else nm, cmp := [], partCount := 0, greedy := wild || plus, optional := wild || p[paramEnd p]? = some 63, last := false, optSlash := false, cons := cons, length := 0 },
    if wild then stars + 1 else stars, if !wild && plus then pluses + 1 else pluses)
def plainPart (p : Bs) (stars pluses : Nat) : Bs × Seg × Nat × Nat := partOf p stars pluses (unesc (trimmed (p.take (paramEnd p + 1)))) []

/-- What analyseParameterPart leaves. -/
def PartEnd (s : ByteArray) (P stars pluses : Nat) (sv pv : Value) (r : Option (Bs × Seg × Nat × Nat)) (w : World) (e : Ending) (w' : World) : Prop :=
  match r with
  | none => ∃ ps, e = .panicked ps ∧ w.grownBy w' (some P)
  | some (q, x, st, pl) => ∃ g cv, e = .returned (.tuple #[.string (bs q), .pointer (some ⟨g, 0, none⟩)]) ∧ w.heap.size ≤ g ∧ SegObj w' g x cv ∧ w.grownBy w' (some P) ∧
      w'.heap[P]? = some (.cells #[sv, pv, .int .i64 (st : Nat), .int .i64 (pl : Nat)] 79 (0, 0)) ∧ ConsAt w' w.heap.size g cv x.cons

theorem obj_cell {w : World} {g i : Nat} {c : Array Value} {t : TypeId} {v : Value} (h : w.heap[g]? = some (.cells c t (0, 0))) (hi : c[i]? = some v) : w.cell? ⟨g, i, none⟩ = some v := by
  simp [World.cell?, h, hi]
theorem obj_free {w : World} {g i : Nat} {c : Array Value} {t : TypeId} (h : w.heap[g]? = some (.cells c t (0, 0))) : w.frozen? ⟨g, i, none⟩ = false := by
  simp [World.frozen?, h]
theorem obj_set {w : World} {g i : Nat} {c : Array Value} {t : TypeId} {fr : Nat × Nat} (v : Value) (h : w.heap[g]? = some (.cells c t fr)) : (w.setCell ⟨g, i, none⟩ v).heap[g]? = some (.cells (c.setIfInBounds i v) t fr) := by
  simp [World.setCell, Array.getElem?_modify, h]
theorem grown_set {w wx : World} {P i : Nat} (v : Value) (hb : Below w.heap.size w wx) : w.grownBy (wx.setCell ⟨P, i, none⟩ v) (some P) :=
  ⟨hb.os, hb.tape, hb.output, by simpa using hb.size, fun k hk hne => (Below.heap_setCell wx ⟨P, i, none⟩ v k (fun h => hne (by rw [h]))).trans (hb.block k hk)⟩
theorem grown_grow {w wx : World} {row : Option Nat} (h : w.grownBy wx row) (k : Nat) (os : Array Obj) : w.grownBy («Sort».grow (wx.drewN k) os) row :=
  ⟨h.os, h.tape, h.output, Nat.le_trans h.size (Lib.size_grow wx k os), fun j hj hne => (Lib.heap_grow_old wx k os j (Nat.lt_of_lt_of_le hj h.size)).trans (h.block j hj hne)⟩
theorem grown_alloc {w wx : World} {row : Option Nat} (h : w.grownBy wx row) (o : Obj) : w.grownBy (wx.alloc o) row :=
  ⟨h.os, h.tape, h.output, Nat.le_trans h.size (by simp), fun j hj hne => (Below.heap_alloc wx o j (Nat.lt_of_lt_of_le hj h.size)).trans (h.block j hj hne)⟩
theorem grown_of {w wx : World} {P : Nat} (hb : Below w.heap.size w wx) : w.grownBy wx (some P) := ⟨hb.os, hb.tape, hb.output, hb.size, fun k hk _ => hb.block k hk⟩

theorem fin_part {s : ByteArray} {P stars pluses st pl : Nat} {sv pv : Value} {w wy : World} {q : Bs} {x : Seg} (hc : x.cons = []) (hg : w.grownBy wy (some P))
    (hP : wy.heap[P]? = some (.cells #[sv, pv, .int .i64 (st : Nat), .int .i64 (pl : Nat)] 79 (0, 0))) :
    PartEnd s P stars pluses sv pv (some (q, x, st, pl)) w (.returned (.tuple #[.string (bs q), .pointer (some ⟨wy.heap.size, 0, none⟩)])) (wy.alloc (.cells (segCells x (.slice none 0 0)).toArray 99)) := by
  refine ⟨wy.heap.size, .slice none 0 0, rfl, hg.size, seg_new wy x _, grown_alloc hg _, ?_, ?_⟩
  · rw [Below.heap_alloc wy _ P (lt_of_obj hP)]; exact hP
  · rw [hc]
    exact ⟨[], rfl, World.ownsRow_nil _ _ _ _, by simp [Value.ownBlock], fun i c h => by simp at h⟩

theorem size_grow_set (w : World) (k : Nat) (os : Array Obj) (a : Addr) (v : Value) : («Sort».grow ((w.setCell a v).drewN k) os).heap.size = w.heap.size + os.size := by
  show ((w.setCell a v).heap ++ os).size = _
  rw [Array.size_append, World.size_setCell]
theorem cast_part {s : ByteArray} {P stars pluses : Nat} {sv pv : Value} {r : Option (Bs × Seg × Nat × Nat)} {w w1 w2 : World} {e1 e2 : Ending} (h : e1 = e2 ∧ w1 = w2) (hp : PartEnd s P stars pluses sv pv r w e2 w2) : PartEnd s P stars pluses sv pv r w e1 w1 := by
  rw [h.1, h.2]; exact hp

theorem pp_wild {p : Bs} {st pl : Nat} (h : p.head? = some 42) : plainPart p st pl = (p.take (paramEnd p + 1), { const := [], isParam := true, name := unesc (trimmed (p.take (paramEnd p + 1))) ++ Go.Lib.itoa (st + 1 : Nat), cmp := [], partCount := 0, greedy := true, optional := true, last := false, optSlash := false, cons := [], length := 0 }, st + 1, pl) := by
  simp [plainPart, partOf, h]
theorem pp_plus {p : Bs} {st pl : Nat} (h : p.head? = some 43) : plainPart p st pl = (p.take (paramEnd p + 1), { const := [], isParam := true, name := unesc (trimmed (p.take (paramEnd p + 1))) ++ Go.Lib.itoa (pl + 1 : Nat), cmp := [], partCount := 0, greedy := true, optional := decide (p[paramEnd p]? = some 63), last := false, optSlash := false, cons := [], length := 0 }, st, pl + 1) := by
  simp [plainPart, partOf, h]
theorem pp_none {p : Bs} {st pl : Nat} (h1 : ¬ p.head? = some 42) (h2 : ¬ p.head? = some 43) : plainPart p st pl = (p.take (paramEnd p + 1), { const := [], isParam := true, name := unesc (trimmed (p.take (paramEnd p + 1))), cmp := [], partCount := 0, greedy := false, optional := decide (p[paramEnd p]? = some 63), last := false, optSlash := false, cons := [], length := 0 }, st, pl) := by
  simp [plainPart, partOf, h1, h2]

set_option maxHeartbeats 4000000 in
set_option maxRecDepth 100000 in
theorem part_none (s : ByteArray) (B P stars pluses : Nat) (sv pv : Value) (w : World) (hs : s.size ≤ 1000000000) (h0 : 0 < s.size) (hst : stars ≤ 1000000000) (hpl : pluses ≤ 1000000000)
    (hP : w.heap[P]? = some (.cells #[sv, pv, .int .i64 stars, .int .i64 pluses] 79 (0, 0)))
    (hno : stOf s.data.toList = none ∨ enOf s.data.toList = none) (hPB : B ≤ P) (hBw : B ≤ w.heap.size) (htab : Lib.TabBelow Tryz.prog B w "internal/strconv.uint64pow10" .u64 Lib.pow10Tab) :
    Calls Tryz.prog 53 #[.pointer (some ⟨P, 0, none⟩), .string s] w (PartEnd s P stars pluses sv pv (some (plainPart s.data.toList stars pluses)) w) := by
  have HP := Lib.hid hP
  clear hP
  go_enter Tryz.func53, Tryz.ntmps53
  go_upto_region 4 with fail
  generalize hwi : (((s[0]'h0).toNat : Int) == 42) = wild
  generalize hpi : (((s[0]'h0).toNat : Int) == 43) = plus
  have HWI := Lib.hid hwi
  have HPI := Lib.hid hpi
  clear hwi hpi
  go_cut [34] from 23 to 34 (fun v wx => v = .bool (s.data.toList.contains 60 && s.data.toList.contains 62) ∧ Below w.heap.size w wx)
  case first =>
    cases hA : s.data.toList.contains 60 with
    | false =>
      have HA := Lib.hid hA
      clear hA
      go_wp2_with (go_at_call 66; refine (containsRune_any s 60 (by decide) _ (by omega)).mono ?_; rintro e w1 ⟨rfl, hb1⟩; rw [HA.out])
      go_meet
      case rel => exact ⟨by rw [HA.out]; rfl, hb1⟩
    | true =>
      have HA := Lib.hid hA
      clear hA
      go_wp2_with (first | (go_at_call 66; refine (containsRune_any s 60 (by decide) _ (by omega)).mono ?_; rintro e w1 ⟨rfl, hb1⟩; rw [HA.out]) | (go_at_call 66; refine (containsRune_any s 62 (by decide) _ (by omega)).mono ?_; rintro e w2 ⟨rfl, hb2⟩))
      go_meet
      case rel => exact ⟨by rw [HA.out]; simp, hb1.trans (hb2.mono hb1.size)⟩
  case rest =>
  obtain ⟨rfl, hb⟩ := hcut
  have HB := Lib.hid hb
  clear hb
  go_upto_if 34 with fail
  go_cut [8] from 34 to 42 (fun v wx => v = .int .i64 (endA s.data.toList) ∧ Below w.heap.size w wx)
  case first =>
    have hex := Lib.hid (extract_from s 1)
    have hex2 := Lib.hid (extract_range s 1 s.size)
    have e4 : (1 : Int) ≤ (s.size : Int) := by omega
    cases hA : (s.data.toList.contains 60 && s.data.toList.contains 62) with
    | false =>
      have HA := Lib.hid (show endA s.data.toList = oi (nne (s.data.toList.drop 1) ends) by unfold endA; rw [hA]; rfl)
      go_upto_region 6 with fail
      go_region_with (first | (go_at_call 68; refine (chars68 _).mono ?_; rintro e w2 ⟨g2, cap2, rfl, hc2, _, _, hb2⟩) | (go_at_call 64; refine (nne_any _ g2 0 cap2 ends _ (by simp; omega) (by decide) (by assumption)).mono ?_; rintro e w2' ⟨rfl, rfl⟩; rw [hex.out, ← HA.out]))
      all_goals
        go_wp2_with fail
        go_meet
        exact ⟨rfl, HB.out.drew.trans (hb2.mono HB.out.size)⟩
    | true =>
      have HA := Lib.hid (show endA s.data.toList = nextCon (s.data.toList.drop 1) ends by unfold endA; rw [hA]; rfl)
      go_upto_region 5 with fail
      go_region_with (first | (go_at_call 68; refine (chars68 _).mono ?_; rintro e w2 ⟨g2, cap2, rfl, hc2, _, hg2, hb2⟩) | (go_at_call 67; refine (nextCon_any _ g2 0 cap2 ends _ (by simp; omega) (by decide) (by assumption) (by assumption)).mono ?_; rintro e w3 ⟨rfl, hb3⟩; rw [hex.out, ← HA.out]))
      all_goals
        go_wp2_with fail
        go_meet
        exact ⟨rfl, HB.out.drew.trans ((hb2.mono HB.out.size).trans (hb3.mono (Nat.le_trans HB.out.size hb2.size)))⟩
  case rest =>
  obtain ⟨rfl, hb⟩ := hcut
  have HB := Lib.hid hb
  clear hb
  have hE := endA_range s h0
  obtain ⟨E, hEe⟩ : ∃ E, E = endA s.data.toList := ⟨_, rfl⟩
  rw [← hEe] at hE
  rw [← hEe]
  have HE := Lib.hid hEe
  clear hEe
  have HL := Lib.hid (show s.data.toList.length = s.size from size_data s)
  have hhd := Lib.hid (head_of s h0)
  go_upto_block 0 with fail
  go_cut [6, 7, 8] from 43 to 61 (fun a b v wx => a = .bool wild ∧ b = .bool plus ∧ v = .int .i64 (paramEnd s.data.toList) ∧ Below w.heap.size w wx)
  case first =>
    cases hw : wild with
    | true =>
      have HQ := Lib.hid (pe_greedy (p := s.data.toList) (.inl (by rw [hhd.out]; exact congrArg some (u8_yes (HWI.out.trans hw) 42 rfl))))
      have HW := Lib.hid hw
      clear hw
      go_wp2
      go_meet
      case rel => exact ⟨congrArg Value.bool HW.out.symm, rfl, by rw [HQ.out]; rfl, HB.out⟩
    | false =>
      cases hp : plus with
      | true =>
        have HQ := Lib.hid (pe_greedy (p := s.data.toList) (.inr (by rw [hhd.out]; exact congrArg some (u8_yes (HPI.out.trans hp) 43 rfl))))
        have HW := Lib.hid hw
        have HPl := Lib.hid hp
        clear hw hp
        go_wp2
        go_meet
        case rel => exact ⟨congrArg Value.bool HW.out.symm, congrArg Value.bool HPl.out.symm, by rw [HQ.out]; rfl, HB.out⟩
      | false =>
        have HN := Lib.hid (show ¬ (s.data.toList.head? = some 42 ∨ s.data.toList.head? = some 43) by
          rw [hhd.out]
          rintro (h | h)
          · exact u8_no (HWI.out.trans hw) 42 rfl (Option.some.inj h)
          · exact u8_no (HPI.out.trans hp) 43 rfl (Option.some.inj h))
        have HW := Lib.hid hw
        have HPl := Lib.hid hp
        clear hw hp
        by_cases hm : E = -1
        · have HQ := Lib.hid (pe_last HN.out (HE.out.symm.trans hm))
          have e1 : (1 : Int) ≤ s.size := by omega
          subst hm
          go_wp2
          go_meet
          case rel =>
            refine ⟨congrArg Value.bool HW.out.symm, congrArg Value.bool HPl.out.symm, ?_, HB.out⟩
            rw [HQ.out, HL.out]
            go_num
        · obtain ⟨k, rfl⟩ : ∃ k : Nat, E = k := ⟨E.toNat, by omega⟩
          have hk : k + 1 < s.size := by omega
          have hkm : ((k : Int) == -1) = false := by rw [beq_eq_false_iff_ne]; omega
          have HQ := Lib.hid (pe_mid HN.out HE.out.symm hk)
          have e1 : IntKind.i64.wrap ((k : Int) + 1) = (k : Int) + 1 := IntWalk.i64_in _ (by omega)
          have e2 : (0 : Int) ≤ (k : Int) + 1 := by omega
          have e3 : ((k : Int) + 1).toNat = k + 1 := by omega
          have e4 : (k : Int) + 1 < (s.size : Int) := by omega
          clear hm hE
          go_upto_region 14 with fail
          go_region_with (first | (go_at_call 70; refine (chars70 _).mono ?_; rintro e w2 ⟨g2, cap2, rfl, hc2, _, hg2, hb2⟩) | (go_at_call 69; refine (in_any (s[k + 1]'hk) g2 0 cap2 delims _ (by decide) (by assumption)).mono ?_; rintro e w3 ⟨rfl, rfl⟩))
          all_goals go_wp2
          all_goals go_meet
          all_goals first
            | (have hd : (!decide (s[k + 1]'hk ∈ delims)) = true := by assumption
               exact ⟨congrArg Value.bool HW.out.symm, congrArg Value.bool HPl.out.symm, by rw [HQ.out, if_neg (by rw [List.contains_iff_mem]; simpa using hd)]; rfl, HB.out.drew.trans (hb2.mono HB.out.size)⟩)
            | (have hd : (!decide (s[k + 1]'hk ∈ delims)) = false := by assumption
               exact ⟨congrArg Value.bool HW.out.symm, congrArg Value.bool HPl.out.symm, by rw [HQ.out, if_pos (by rw [List.contains_iff_mem]; simpa using hd)], HB.out.drew.trans (hb2.mono HB.out.size)⟩)
  case rest =>
  obtain ⟨rfl, rfl, rfl, hb⟩ := hcut
  clear HB
  have HB := Lib.hid hb
  clear hb
  clear hE HE E
  obtain ⟨e, hee⟩ : ∃ e, e = paramEnd s.data.toList := ⟨_, rfl⟩
  have hle := paramEnd_lt s h0
  rw [← hee] at hle
  rw [← hee]
  have HE := Lib.hid hee
  clear hee
  go_upto_if 63 with fail
  go_cut [9, 10] from 62 to 74 (fun a b wx => a = .int .i64 (oi (stOf s.data.toList)) ∧ b = .int .i64 (oi (enOf s.data.toList)) ∧ Below w.heap.size w wx)
  case first =>
    by_cases he : 0 < e
    · have HS := Lib.hid (show stOf s.data.toList = nne (s.data.toList.take e) [60] by unfold stOf; rw [← HE.out, if_pos he])
      have HN := Lib.hid (show enOf s.data.toList = lb (s.data.toList.take (e + 1)) 62 by unfold enOf; rw [← HE.out, if_pos he])
      have hex := Lib.hid (take_ext s e)
      have hex1 := Lib.hid (take_ext s (e + 1))
      have e1 : IntKind.i64.wrap ((e : Int) + 1) = (e : Int) + 1 := IntWalk.i64_in _ (by omega)
      have e2 : (0 : Int) ≤ (e : Int) + 1 := by omega
      have e3 : ((e : Int) + 1).toNat = e + 1 := by omega
      have e4 : (e : Int) + 1 ≤ (s.size : Int) := by omega
      have e5 : (e : Int) ≤ (s.size : Int) := by omega
      go_upto_region 17 with fail
      go_region_with (first | (go_at_call 71; refine (chars71 _).mono ?_; rintro e w2 ⟨g2, cap2, rfl, hc2, _, hg2, hb2⟩) | (go_at_call 64; refine (nne_any _ g2 0 cap2 [60] _ (by simp; omega) (by decide) (by assumption)).mono ?_; rintro e w2' ⟨rfl, rfl⟩; rw [hex.out, ← HS.out]))
      all_goals
        go_upto_region 18 with fail
        go_region_with (first | (go_at_call 73; refine (chars73 _).mono ?_; rintro e w3 ⟨g3, cap3, rfl, hc3, _, hg3, hb3⟩) | (go_at_call 72; refine (last_any _ g3 0 cap3 62 _ (by simp; omega) (by assumption)).mono ?_; rintro e w3' ⟨rfl, rfl⟩; rw [hex1.out, ← HN.out]))
        all_goals
          go_wp2_with fail
          go_meet
          case rel => exact ⟨rfl, rfl, (HB.out.drew.trans (hb2.mono HB.out.size)).drew.trans (hb3.mono (Nat.le_trans HB.out.size hb2.size))⟩
    · obtain rfl : e = 0 := by omega
      have HS := Lib.hid (show stOf s.data.toList = none by unfold stOf; rw [← HE.out, if_neg (by omega)])
      have HN := Lib.hid (show enOf s.data.toList = none by unfold enOf; rw [← HE.out, if_neg (by omega)])
      go_wp2
      go_meet
      case rel => exact ⟨by rw [HS.out]; rfl, by rw [HN.out]; rfl, HB.out⟩
  case rest =>
  obtain ⟨rfl, rfl, hb⟩ := hcut
  clear HB
  have HB := Lib.hid hb
  clear hb
  have e1 : IntKind.i64.wrap ((e : Int) + 1) = (e : Int) + 1 := IntWalk.i64_in _ (by omega)
  have hex1 := Lib.hid (take_ext s (e + 1))
  go_upto_region 22 with (first | (go_at_call 74; refine (trimmed_any _ _ (by simp; omega)).mono ?_; rintro e w2 ⟨rfl, rfl⟩; rw [hex1.out]) | (go_at_call 51; refine (unesc_any _ _ (by have := trimmed_le (s.data.toList.take (e + 1)); simp at this; simp [bs_size]; omega)).mono ?_; rintro e w3 ⟨rfl, hb3⟩; rw [bs_data]))
  have HB3 := Lib.hid (HB.out.trans (hb3.mono HB.out.size))
  clear HB hb3
  have hlen : (unesc (trimmed (s.data.toList.take (e + 1)))).length ≤ 1000000000 := by
    have h1 := trimmed_le (s.data.toList.take (e + 1))
    have h2 := List.length_filter_le (· != 92) (trimmed (s.data.toList.take (e + 1)))
    rw [List.length_take] at h1
    rw [HL.out] at h1
    show (List.filter (· != 92) _).length ≤ _
    omega
  obtain ⟨nm, hnm⟩ : ∃ nm, nm = unesc (trimmed (s.data.toList.take (e + 1))) := ⟨_, rfl⟩
  rw [← hnm] at hlen
  rw [← hnm]
  have HNM := Lib.hid hnm
  clear hnm
  go_cut [9, 10, 14] from 75 to 87 (fun _ _ c wx => c = .bool false ∧ Below w.heap.size w wx)
  case first =>
    cases hst : stOf s.data.toList with
    | none =>
      rw [oi_none]
      clear hst
      go_wp2
      go_meet
      case rel => exact ⟨rfl, HB3.out⟩
    | some k =>
      have hen : enOf s.data.toList = none := by
        rcases hno with h | h
        · rw [h] at hst; cases hst
        · exact h
      rw [hen, oi_none, oi_some]
      have hbn : ((k : Int) != -1) = true := by simp [bne_iff_ne]
      clear hst hen
      go_wp2
      go_meet
      case rel => exact ⟨rfl, HB3.out⟩
  case rest =>
  obtain ⟨rfl, hb⟩ := hcut
  clear HB3
  have HB := Lib.hid hb
  clear hb hno
  have hpo := (HB.out.block P (lt_of_obj HP.out)).trans HP.out
  have HPO := Lib.hid hpo
  clear hpo
  have hq63 := Lib.hid (show (((s[e]'hle).toNat : Int) == 63) = decide (s.data.toList[paramEnd s.data.toList]? = some 63) by
    rw [← HE.out, byte_at s e hle, u8_beq _ 63 63 rfl, Bool.eq_iff_iff]; simp)
  have hPl := lt_of_obj HPO.out
  have c2 := obj_cell (i := 2) HPO.out rfl
  have c3 := obj_cell (i := 3) HPO.out rfl
  have f2 := obj_free (i := 2) HPO.out
  have f3 := obj_free (i := 3) HPO.out
  have hap := Lib.hid (fun l => bs_append nm l)
  go_upto_if 207 with fail
  cases hw : wild with
  | true =>
    have HH := Lib.hid (pp_wild (p := s.data.toList) (st := stars) (pl := pluses) (by rw [hhd.out]; exact congrArg some (u8_yes (HWI.out.trans hw) 42 rfl)))
    clear hw
    have hil0 := Lib.itoa_length_le ((stars : Int) + 1) (by omega) (by omega)
    have hil : ¬ 9223372036854775807 < nm.length + (Lib.itoa ((stars : Int) + 1)).length := by omega
    clear hil0
    have htb := Lib.hid (htab _ ((HB.out.mono hBw).setCell (p := ⟨P, 2, none⟩) hPB (.int .i64 ((stars : Int) + 1))))
    go_wp2_with (go_at_call 81; refine (Tryz.strconv_Itoa _ (by omega) (by omega) _ htb.out).mono ?_; rintro e w4 ⟨rfl, kk, os, rfl⟩)
    go_ret2
    have hg := grown_grow (grown_set (i := 2) (P := P) (.int .i64 ((stars : Int) + 1)) HB.out) kk os
    have ho := (Lib.heap_grow_old _ kk os P (by simpa using hPl)).trans (obj_set (i := 2) (.int .i64 ((stars : Int) + 1)) HPO.out)
    rw [HH.out, ← HE.out, ← HNM.out, hap.out]
    refine cast_part ?_ (fin_part rfl hg (ho.trans rfl))
    rw [← take_bs]
    exact ⟨by rw [size_grow_set]; rfl, rfl⟩
  | false =>
    have hn42 := Lib.hid (show ¬ s.data.toList.head? = some 42 by rw [hhd.out]; exact fun h => u8_no (HWI.out.trans hw) 42 rfl (Option.some.inj h))
    clear hw
    cases hp : plus with
    | true =>
      have HH := Lib.hid (pp_plus (p := s.data.toList) (st := stars) (pl := pluses) (by rw [hhd.out]; exact congrArg some (u8_yes (HPI.out.trans hp) 43 rfl)))
      clear hp
      have hil0 := Lib.itoa_length_le ((pluses : Int) + 1) (by omega) (by omega)
      have hil : ¬ 9223372036854775807 < nm.length + (Lib.itoa ((pluses : Int) + 1)).length := by omega
      clear hil0
      have htb := Lib.hid (htab _ ((HB.out.mono hBw).setCell (p := ⟨P, 3, none⟩) hPB (.int .i64 ((pluses : Int) + 1))))
      go_wp2_with (go_at_call 81; refine (Tryz.strconv_Itoa _ (by omega) (by omega) _ htb.out).mono ?_; rintro e w4 ⟨rfl, kk, os, rfl⟩)
      go_ret2
      have hg := grown_grow (grown_set (i := 3) (P := P) (.int .i64 ((pluses : Int) + 1)) HB.out) kk os
      have ho := (Lib.heap_grow_old _ kk os P (by simpa using hPl)).trans (obj_set (i := 3) (.int .i64 ((pluses : Int) + 1)) HPO.out)
      rw [HH.out, ← HE.out, ← HNM.out, hap.out]
      have hq := hq63.out
      rw [← HE.out] at hq
      rw [hq]
      refine cast_part ?_ (fin_part rfl hg (ho.trans rfl))
      rw [← take_bs]
      exact ⟨by rw [size_grow_set]; rfl, rfl⟩
    | false =>
      have hn43 := Lib.hid (show ¬ s.data.toList.head? = some 43 by rw [hhd.out]; exact fun h => u8_no (HPI.out.trans hp) 43 rfl (Option.some.inj h))
      clear hp
      have HH := Lib.hid (pp_none (p := s.data.toList) (st := stars) (pl := pluses) hn42.out hn43.out)
      go_wp2
      go_ret2
      rw [HH.out, ← HE.out, ← HNM.out]
      have hq := hq63.out
      rw [← HE.out] at hq
      rw [hq]
      refine cast_part ?_ (fin_part rfl (grown_of HB.out) HPO.out)
      rw [← take_bs]
      exact ⟨rfl, rfl⟩
end Go.Proofs.YtiebedcldbmlhaaGreatDoor
