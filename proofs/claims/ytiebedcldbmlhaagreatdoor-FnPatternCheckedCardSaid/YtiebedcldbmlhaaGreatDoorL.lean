/-
  findParamLen, of any text and segment. Conditions: of a size that addresses allow.
-/
import Derived.Test.YtiebedcldbmlhaaGreatDoorK
namespace Go.Proofs.YtiebedcldbmlhaaGreatDoor
open Go.RowKit
set_option linter.unusedVariables false

/-- findParamLen behind its first two tests. -/
def plTail (s cmp : Bs) (greedy : Bool) : Nat :=
  match cmp with
  | [c] => (fb s c).getD s.length
  | _ => match idx s cmp with
    | none => s.length
    | some p => if !greedy ∧ (s.take p).contains 47 then 0 else p
theorem pl_fixed {s : Bs} {x : Seg} (h1 : x.last = false) (h2 : x.length ≠ 0) (h3 : x.length ≤ s.length) : paramLen s x = x.length.toNat := by unfold paramLen; simp [h1, h2, h3]
theorem pl_greedy {s : Bs} {x : Seg} (h1 : x.last = false) (h2 : x.length = 0 ∨ (s.length : Int) < x.length) (h3 : x.greedy = true) (h4 : 1 < countS s x.cmp) : paramLen s x = (greedyGo x.cmp x.partCount.toNat (countS s x.cmp) s).length := by
  unfold paramLen
  rw [if_neg (by simp [h1]), if_neg (by omega), if_pos h2, if_pos ⟨h3, h4⟩]
theorem pl_tail {s : Bs} {x : Seg} (h1 : x.last = false) (h2 : x.length = 0 ∨ (s.length : Int) < x.length) (h3 : ¬ (x.greedy = true ∧ 1 < countS s x.cmp)) : paramLen s x = plTail s x.cmp x.greedy := by
  unfold paramLen
  rw [if_neg (by simp [h1]), if_neg (by omega), if_pos h2, if_neg h3]
  rfl
theorem cmp_one (t : ByteArray) (h : t.size = 1) (hi : 0 < t.size) : t.data.toList = [t[0]'hi] := by
  rw [data_cons t hi, List.drop_of_length_le (by rw [size_data]; omega)]
theorem cmp_not (t : ByteArray) (h : ¬ t.size = 1) : ∀ c, t.data.toList ≠ [c] := by
  intro c hc
  apply h
  rw [← size_data, hc]; rfl
theorem tail_one_none {s cmp : Bs} {c : UInt8} {gr : Bool} (h : cmp = [c]) (hf : fb s c = none) : plTail s cmp gr = s.length := by subst h; simp [plTail, hf]
theorem tail_one_some {s cmp : Bs} {c : UInt8} {gr : Bool} {k : Nat} (h : cmp = [c]) (hf : fb s c = some k) : plTail s cmp gr = k := by subst h; simp [plTail, hf]
theorem plTail_not {s cmp : Bs} {gr : Bool} (h : ∀ c, cmp ≠ [c]) : plTail s cmp gr = (match idx s cmp with
    | none => s.length
    | some p => if !gr ∧ (s.take p).contains 47 then 0 else p) := by
  unfold plTail
  split
  · exact absurd rfl (h _)
  · rfl
theorem tail_none {s cmp : Bs} {gr : Bool} (h : ∀ c, cmp ≠ [c]) (hf : idx s cmp = none) : plTail s cmp gr = s.length := by rw [plTail_not h, hf]
theorem fb_none_iff {s : Bs} {c : UInt8} : fb s c = none ↔ s.contains c = false := by
  unfold fb
  rw [List.findIdx?_eq_none_iff, Bool.eq_false_iff]
  simp only [ne_eq, List.contains_iff_mem, beq_eq_false_iff_ne]
  exact ⟨fun h hc => h c hc rfl, fun h x hx he => h (he ▸ hx)⟩
theorem fb_some_has {s : Bs} {c : UInt8} {k : Nat} (h : fb s c = some k) : s.contains c = true := by
  cases hc : s.contains c with
  | true => rfl
  | false => rw [fb_none_iff.2 hc] at h; cases h
theorem tail_free {s cmp : Bs} {gr : Bool} {k : Nat} (h : ∀ c, cmp ≠ [c]) (hf : idx s cmp = some k) (hg : gr = false) (hz : fb (s.take k) 47 = none) : plTail s cmp gr = k := by
  rw [plTail_not h, hf]; simp [hg]
  intro hm
  have := fb_none_iff.1 hz
  simp_all
theorem tail_held {s cmp : Bs} {gr : Bool} {k j : Nat} (h : ∀ c, cmp ≠ [c]) (hf : idx s cmp = some k) (hg : gr = false) (hz : fb (s.take k) 47 = some j) : plTail s cmp gr = 0 := by
  rw [plTail_not h, hf]
  have := fb_some_has hz
  simp only [hg, this]
  simp
theorem tail_greedy {s cmp : Bs} {gr : Bool} {k : Nat} (h : ∀ c, cmp ≠ [c]) (hf : idx s cmp = some k) (hg : gr = true) : plTail s cmp gr = k := by
  rw [plTail_not h, hf]; simp [hg]
theorem idxGo_le {sub : Bs} : ∀ {n : Nat} {s : Bs} {i k : Nat}, idxGo sub n s i = some k → k ≤ i + s.length
  | 0, s, i, k, h => by cases h
  | n + 1, s, i, k, h => by
    unfold idxGo at h
    split at h
    · cases h
    · split at h
      · cases h; omega
      · rename_i h1 h2
        have := idxGo_le h
        rw [List.length_drop] at this
        rcases Nat.eq_zero_or_pos s.length with h0 | h0
        · exfalso
          have hs : s = [] := List.length_eq_zero_iff.1 h0
          have hb : sub = [] := List.length_eq_zero_iff.1 (by omega)
          subst hs hb
          simp at h2
        · omega
theorem idx_le {s sub : Bs} {k : Nat} (h : idx s sub = some k) : k ≤ s.length := by
  have := idxGo_le h
  omega
theorem countGo_le {sub : Bs} (h0 : sub ≠ []) : ∀ {n : Nat} {s : Bs}, countGo sub n s ≤ s.length
  | 0, s => by simp [countGo]
  | n + 1, s => by
    have hl : 0 < sub.length := List.length_pos_iff.2 h0
    unfold countGo
    split
    · omega
    · split
      · have := countGo_le h0 (n := n) (s := s.drop sub.length)
        rw [List.length_drop] at this
        omega
      · have := countGo_le h0 (n := n) (s := s.drop 1)
        rw [List.length_drop] at this
        omega
theorem countS_le (s : ByteArray) (sub : Bs) : countS s.data.toList sub ≤ s.size + 1 := by
  unfold countS
  split
  · rw [Lib.runeCountL_eq]; have := Lib.runeCount_le s; omega
  · rename_i h
    have := countGo_le h (n := s.data.toList.length + 1) (s := s.data.toList)
    rw [size_data] at this
    rw [size_data]
    omega

set_option maxHeartbeats 4000000 in
theorem paramLen_any (s : ByteArray) (g : Nat) (x : Seg) (cv : Value) (w : World) (hs : s.size ≤ 1000000000) (h : SegObj w g x cv) (hp0 : 0 ≤ x.partCount) (hp : x.partCount ≤ 140737488351232) (hc : x.cmp.length ≤ 140737488351232)
    (hl0 : 0 ≤ x.length) (hl1 : x.length ≤ 140737488351232) :
    Calls Tryz.prog 56 #[.string s, .pointer (some ⟨g, 0, none⟩)] w fun e w' => e = .returned (.int .i64 (paramLen s.data.toList x)) ∧ Below w.heap.size w w' := by
  have c7 := h.cell 7 _ rfl
  have HH := Lib.hid h
  clear h
  cases hl : x.last with
  | true =>
    rw [hl] at c7
    have HL := Lib.hid hl
    clear hl
    go_enter Tryz.func56, Tryz.ntmps56
    go_wp2_with fail
    refine (lastSeg_any s g x cv _ (by omega) HH.out HL.out).mono ?_
    rintro e w' ⟨rfl, rfl⟩
    go_wp2
    go_ret
    exact ⟨rfl, Below.refl _ _⟩
  | false =>
    rw [hl] at c7
    have HL := Lib.hid hl
    clear hl
    have c10 := HH.out.cell 10 _ rfl
    obtain ⟨m, hm⟩ : ∃ m : Nat, x.length = m := ⟨x.length.toNat, by omega⟩
    have HM := Lib.hid hm
    rw [hm] at c10 hl1
    clear hm hl0
    by_cases h2 : m ≠ 0 ∧ m ≤ s.size
    · obtain ⟨h2, h3⟩ := h2
      have hq : ((m : Int) != 0) = true := by simp [bne_iff_ne]; exact h2
      have HP := Lib.hid (pl_fixed (s := s.data.toList) HL.out (by rw [HM.out]; omega) (by rw [HM.out, size_data]; omega))
      go_enter Tryz.func56, Tryz.ntmps56
      go_wp2
      go_ret
      exact ⟨ret_int (by rw [HP.out, HM.out]; simp), Below.refl _ _⟩
    · have HQ := Lib.hid (show x.length = 0 ∨ (s.data.toList.length : Int) < x.length by rw [HM.out, size_data]; omega)
      have c5 := HH.out.cell 5 _ rfl
      have c3 := HH.out.cell 3 _ rfl
      obtain ⟨t, ht⟩ : ∃ t, t = bs x.cmp := ⟨_, rfl⟩
      have htd : x.cmp = t.data.toList := by rw [ht, bs_data]
      have hts : t.size ≤ 140737488351232 := by rw [ht]; exact hc
      rw [← ht] at c3
      have HD := Lib.hid htd
      clear ht htd
      cases hg : x.greedy with
      | false =>
        rw [hg] at c5
        have HG := Lib.hid hg
        have HT := Lib.hid (show paramLen s.data.toList x = plTail s.data.toList t.data.toList x.greedy by rw [← HD.out]; exact pl_tail HL.out HQ.out (by rw [HG.out]; simp))
        have HB := Lib.hid (Below.refl w.heap.size w)
        clear hg
        go_enter Tryz.func56, Tryz.ntmps56
        rcases (show m = 0 ∨ (0 < m ∧ s.size < m) by omega) with h3 | ⟨h3, h4⟩
        · subst h3
          by_cases h1 : t.size = 1
          · have hi : 0 < t.size := by omega
            have hq1 : ((t.size : Int) == 1) = true := by rw [h1]; rfl
            go_wp2_with fail
            refine (index_any s (t[0]'hi) _).mono ?_
            rintro e w' ⟨rfl, rfl⟩
            have hcm := cmp_one t h1 hi
            cases hf : fb s.data.toList (t[0]'hi) with
            | none =>
              rw [oi_none]
              have HP := Lib.hid (tail_one_none (gr := x.greedy) hcm hf)
              clear hf hcm
              go_wp2
              go_ret
              exact ⟨ret_int (by rw [HT.out, HP.out, size_data]), HB.out⟩
            | some k =>
              rw [oi_some]
              have HP := Lib.hid (tail_one_some (gr := x.greedy) hcm hf)
              have hbn : ((k : Int) != -1) = true := by simp [bne_iff_ne]
              clear hf hcm
              go_wp2
              go_ret
              exact ⟨ret_int (by rw [HT.out, HP.out]), HB.out⟩
          · have hq1 : ((t.size : Int) == 1) = false := by rw [beq_eq_false_iff_ne]; omega
            have hne := cmp_not t h1
            go_wp2_with fail
            refine (idx_any s t _ (by omega) hts).mono ?_
            rintro e w' ⟨rfl, rfl⟩
            cases hf : idx s.data.toList t.data.toList with
            | none =>
              rw [oi_none]
              have HP := Lib.hid (tail_none (gr := x.greedy) hne hf)
              clear hf hne
              go_wp2
              go_ret
              exact ⟨ret_int (by rw [HT.out, HP.out, size_data]), HB.out⟩
            | some k =>
              rw [oi_some]
              have hk := idx_le hf
              rw [size_data] at hk
              have hbn : ((k : Int) != -1) = true := by simp [bne_iff_ne]
              have HF := Lib.hid hf
              have HN := Lib.hid hne
              have hex := Lib.hid (extract_range s 0 k)
              clear hf hne
              cases hz : fb (s.data.toList.take k) 47 with
              | none =>
                have HZ := Lib.hid hz
                have HP := Lib.hid (tail_free HN.out HF.out (HG.out) hz)
                clear hz
                go_wp2_with (go_at_call 62; refine (index_any _ 47 _).mono ?_; rintro e w' ⟨rfl, rfl⟩; rw [hex.out, List.drop_zero, Nat.sub_zero, HZ.out, oi_none])
                go_ret
                exact ⟨ret_int (by rw [HT.out, HP.out]), HB.out⟩
              | some j =>
                have hbj : ((j : Int) != -1) = true := by simp [bne_iff_ne]
                have HZ := Lib.hid hz
                have HP := Lib.hid (tail_held HN.out HF.out (HG.out) hz)
                clear hz
                go_wp2_with (go_at_call 62; refine (index_any _ 47 _).mono ?_; rintro e w' ⟨rfl, rfl⟩; rw [hex.out, List.drop_zero, Nat.sub_zero, HZ.out, oi_some])
                go_ret
                exact ⟨ret_int (by rw [HT.out, HP.out]; rfl), HB.out⟩
        · have hq : ((m : Int) != 0) = true := by simp [bne_iff_ne]; omega
          by_cases h1 : t.size = 1
          · have hi : 0 < t.size := by omega
            have hq1 : ((t.size : Int) == 1) = true := by rw [h1]; rfl
            go_wp2_with fail
            refine (index_any s (t[0]'hi) _).mono ?_
            rintro e w' ⟨rfl, rfl⟩
            have hcm := cmp_one t h1 hi
            cases hf : fb s.data.toList (t[0]'hi) with
            | none =>
              rw [oi_none]
              have HP := Lib.hid (tail_one_none (gr := x.greedy) hcm hf)
              clear hf hcm
              go_wp2
              go_ret
              exact ⟨ret_int (by rw [HT.out, HP.out, size_data]), HB.out⟩
            | some k =>
              rw [oi_some]
              have HP := Lib.hid (tail_one_some (gr := x.greedy) hcm hf)
              have hbn : ((k : Int) != -1) = true := by simp [bne_iff_ne]
              clear hf hcm
              go_wp2
              go_ret
              exact ⟨ret_int (by rw [HT.out, HP.out]), HB.out⟩
          · have hq1 : ((t.size : Int) == 1) = false := by rw [beq_eq_false_iff_ne]; omega
            have hne := cmp_not t h1
            go_wp2_with fail
            refine (idx_any s t _ (by omega) hts).mono ?_
            rintro e w' ⟨rfl, rfl⟩
            cases hf : idx s.data.toList t.data.toList with
            | none =>
              rw [oi_none]
              have HP := Lib.hid (tail_none (gr := x.greedy) hne hf)
              clear hf hne
              go_wp2
              go_ret
              exact ⟨ret_int (by rw [HT.out, HP.out, size_data]), HB.out⟩
            | some k =>
              rw [oi_some]
              have hk := idx_le hf
              rw [size_data] at hk
              have hbn : ((k : Int) != -1) = true := by simp [bne_iff_ne]
              have HF := Lib.hid hf
              have HN := Lib.hid hne
              have hex := Lib.hid (extract_range s 0 k)
              clear hf hne
              cases hz : fb (s.data.toList.take k) 47 with
              | none =>
                have HZ := Lib.hid hz
                have HP := Lib.hid (tail_free HN.out HF.out (HG.out) hz)
                clear hz
                go_wp2_with (go_at_call 62; refine (index_any _ 47 _).mono ?_; rintro e w' ⟨rfl, rfl⟩; rw [hex.out, List.drop_zero, Nat.sub_zero, HZ.out, oi_none])
                go_ret
                exact ⟨ret_int (by rw [HT.out, HP.out]), HB.out⟩
              | some j =>
                have hbj : ((j : Int) != -1) = true := by simp [bne_iff_ne]
                have HZ := Lib.hid hz
                have HP := Lib.hid (tail_held HN.out HF.out (HG.out) hz)
                clear hz
                go_wp2_with (go_at_call 62; refine (index_any _ 47 _).mono ?_; rintro e w' ⟨rfl, rfl⟩; rw [hex.out, List.drop_zero, Nat.sub_zero, HZ.out, oi_some])
                go_ret
                exact ⟨ret_int (by rw [HT.out, HP.out]; rfl), HB.out⟩
      | true =>
        rw [hg] at c5
        have HG := Lib.hid hg
        clear hg
        go_enter Tryz.func56, Tryz.ntmps56
        rcases (show m = 0 ∨ (0 < m ∧ s.size < m) by omega) with h3 | ⟨h3, h4⟩
        · subst h3
          go_wp2_with fail
          refine (count_any s t _ (by omega) hts).mono ?_
          rintro e w1 ⟨rfl, hb⟩
          have HO1 := Lib.hid (HH.out.below hb HH.out.lt)
          have c5 := HO1.out.cell 5 _ rfl
          have c3 := HO1.out.cell 3 _ rfl
          have c4 := HO1.out.cell 4 _ rfl
          rw [HD.out, bs_of] at c3
          rw [HG.out] at c5
          have HB := Lib.hid hb
          have hcl := countS_le s t.data.toList
          clear hb
          obtain ⟨n, hn⟩ : ∃ n, n = countS s.data.toList t.data.toList := ⟨_, rfl⟩
          rw [← hn] at hcl
          rw [← hn]
          have HN := Lib.hid hn
          clear hn
          by_cases h1 : 1 < n
          · have HP := Lib.hid (pl_greedy (s := s.data.toList) HL.out HQ.out HG.out (by rw [HD.out, ← HN.out]; exact h1))
            go_wp2_with fail
            refine (greedyLen_any s n g x cv _ (by omega) (by omega) HO1.out hp0 hp hc).mono ?_
            rintro e w' ⟨rfl, rfl⟩
            go_wp2
            go_ret
            exact ⟨ret_int (by rw [HP.out, HN.out, HD.out]), HB.out⟩
          · have HT := Lib.hid (show paramLen s.data.toList x = plTail s.data.toList t.data.toList x.greedy by rw [← HD.out]; exact pl_tail HL.out HQ.out (by rw [HD.out, ← HN.out]; omega))
            by_cases h1 : t.size = 1
            · have hi : 0 < t.size := by omega
              have hq1 : ((t.size : Int) == 1) = true := by rw [h1]; rfl
              go_wp2_with fail
              refine (index_any s (t[0]'hi) _).mono ?_
              rintro e w' ⟨rfl, rfl⟩
              have hcm := cmp_one t h1 hi
              cases hf : fb s.data.toList (t[0]'hi) with
              | none =>
                rw [oi_none]
                have HP := Lib.hid (tail_one_none (gr := x.greedy) hcm hf)
                clear hf hcm
                go_wp2
                go_ret
                exact ⟨ret_int (by rw [HT.out, HP.out, size_data]), HB.out⟩
              | some k =>
                rw [oi_some]
                have HP := Lib.hid (tail_one_some (gr := x.greedy) hcm hf)
                have hbn : ((k : Int) != -1) = true := by simp [bne_iff_ne]
                clear hf hcm
                go_wp2
                go_ret
                exact ⟨ret_int (by rw [HT.out, HP.out]), HB.out⟩
            · have hq1 : ((t.size : Int) == 1) = false := by rw [beq_eq_false_iff_ne]; omega
              have hne := cmp_not t h1
              go_wp2_with fail
              refine (idx_any s t _ (by omega) hts).mono ?_
              rintro e w' ⟨rfl, rfl⟩
              cases hf : idx s.data.toList t.data.toList with
              | none =>
                rw [oi_none]
                have HP := Lib.hid (tail_none (gr := x.greedy) hne hf)
                clear hf hne
                go_wp2
                go_ret
                exact ⟨ret_int (by rw [HT.out, HP.out, size_data]), HB.out⟩
              | some k =>
                rw [oi_some]
                have hk := idx_le hf
                rw [size_data] at hk
                have hbn : ((k : Int) != -1) = true := by simp [bne_iff_ne]
                have HP := Lib.hid (tail_greedy hne hf (HG.out))
                clear hf hne
                go_wp2
                go_ret
                exact ⟨ret_int (by rw [HT.out, HP.out]), HB.out⟩
        · have hq : ((m : Int) != 0) = true := by simp [bne_iff_ne]; omega
          go_wp2_with fail
          refine (count_any s t _ (by omega) hts).mono ?_
          rintro e w1 ⟨rfl, hb⟩
          have HO1 := Lib.hid (HH.out.below hb HH.out.lt)
          have c5 := HO1.out.cell 5 _ rfl
          have c3 := HO1.out.cell 3 _ rfl
          have c4 := HO1.out.cell 4 _ rfl
          rw [HD.out, bs_of] at c3
          rw [HG.out] at c5
          have HB := Lib.hid hb
          have hcl := countS_le s t.data.toList
          clear hb
          obtain ⟨n, hn⟩ : ∃ n, n = countS s.data.toList t.data.toList := ⟨_, rfl⟩
          rw [← hn] at hcl
          rw [← hn]
          have HN := Lib.hid hn
          clear hn
          by_cases h1 : 1 < n
          · have HP := Lib.hid (pl_greedy (s := s.data.toList) HL.out HQ.out HG.out (by rw [HD.out, ← HN.out]; exact h1))
            go_wp2_with fail
            refine (greedyLen_any s n g x cv _ (by omega) (by omega) HO1.out hp0 hp hc).mono ?_
            rintro e w' ⟨rfl, rfl⟩
            go_wp2
            go_ret
            exact ⟨ret_int (by rw [HP.out, HN.out, HD.out]), HB.out⟩
          · have HT := Lib.hid (show paramLen s.data.toList x = plTail s.data.toList t.data.toList x.greedy by rw [← HD.out]; exact pl_tail HL.out HQ.out (by rw [HD.out, ← HN.out]; omega))
            by_cases h1 : t.size = 1
            · have hi : 0 < t.size := by omega
              have hq1 : ((t.size : Int) == 1) = true := by rw [h1]; rfl
              go_wp2_with fail
              refine (index_any s (t[0]'hi) _).mono ?_
              rintro e w' ⟨rfl, rfl⟩
              have hcm := cmp_one t h1 hi
              cases hf : fb s.data.toList (t[0]'hi) with
              | none =>
                rw [oi_none]
                have HP := Lib.hid (tail_one_none (gr := x.greedy) hcm hf)
                clear hf hcm
                go_wp2
                go_ret
                exact ⟨ret_int (by rw [HT.out, HP.out, size_data]), HB.out⟩
              | some k =>
                rw [oi_some]
                have HP := Lib.hid (tail_one_some (gr := x.greedy) hcm hf)
                have hbn : ((k : Int) != -1) = true := by simp [bne_iff_ne]
                clear hf hcm
                go_wp2
                go_ret
                exact ⟨ret_int (by rw [HT.out, HP.out]), HB.out⟩
            · have hq1 : ((t.size : Int) == 1) = false := by rw [beq_eq_false_iff_ne]; omega
              have hne := cmp_not t h1
              go_wp2_with fail
              refine (idx_any s t _ (by omega) hts).mono ?_
              rintro e w' ⟨rfl, rfl⟩
              cases hf : idx s.data.toList t.data.toList with
              | none =>
                rw [oi_none]
                have HP := Lib.hid (tail_none (gr := x.greedy) hne hf)
                clear hf hne
                go_wp2
                go_ret
                exact ⟨ret_int (by rw [HT.out, HP.out, size_data]), HB.out⟩
              | some k =>
                rw [oi_some]
                have hk := idx_le hf
                rw [size_data] at hk
                have hbn : ((k : Int) != -1) = true := by simp [bne_iff_ne]
                have HP := Lib.hid (tail_greedy hne hf (HG.out))
                clear hf hne
                go_wp2
                go_ret
                exact ⟨ret_int (by rw [HT.out, HP.out]), HB.out⟩
end Go.Proofs.YtiebedcldbmlhaaGreatDoor
