/-
  Joined: analyseParameterPart, of any text: also of those that bear constraints, and of those at which it panics.
  Conditions: each law's own.
-/
import Derived.Test.YtiebedcldbmlhaaGreatDoorK30
namespace Go.Proofs.YtiebedcldbmlhaaGreatDoor
open Go.RowKit
set_option linter.unusedVariables false

/-- What analyseParameterPart leaves, a panic told. -/
def PartEndD (s : ByteArray) (P stars pluses : Nat) (sv pv : Value) (r : Option (Bs × Seg × Nat × Nat)) (w : World) (e : Ending) (w' : World) : Prop :=
  match r with
  | none => Dies e ∧ w.grownBy w' (some P)
  | some (q, x, st, pl) => PartEnd s P stars pluses sv pv (some (q, x, st, pl)) w e w'
theorem oneCon_both {c : Bs} {st en : Nat} (h1 : nne c [40] = some st) (h2 : lb c 41 = some en) :
    oneCon c = if en < st + 1 then none else if ctype (c.take st) = 15 then some ⟨15, []⟩ else
      some ⟨ctype (c.take st), if (splitNE ((c.drop (st + 1)).take (en - (st + 1))) 44).length = 1 ∨ (splitNE ((c.drop (st + 1)).take (en - (st + 1))) 44).length = 2 then (splitNE ((c.drop (st + 1)).take (en - (st + 1))) 44).map unesc else splitNE ((c.drop (st + 1)).take (en - (st + 1))) 44⟩ := by
  unfold oneCon
  rw [h1, h2]
theorem oneCon_other {c : Bs} (h : ((nne c [40]).isSome && (lb c 41).isSome) = false) : oneCon c = some ⟨ctype c, []⟩ := by
  unfold oneCon
  cases h1 : nne c [40] with
  | none => rfl
  | some a =>
    cases h2 : lb c 41 with
    | none => rfl
    | some b => rw [h1, h2] at h; cases h
theorem lbGo_has {s : Bs} {c : UInt8} : ∀ {k n : Nat}, lbGo s c k = some n → s[n]? = some c
  | 0, n, h => by cases h
  | k + 1, n, h => by
    unfold lbGo at h
    split at h
    · cases h; assumption
    · exact lbGo_has h
theorem nextCS_has {s : Bs} {a : UInt8} {q : Nat} (h : nextCS s [a] = some q) : s[q]? = some a := by
  unfold nextCS at h
  obtain ⟨hl, hq, _⟩ := List.findIdx?_eq_some_iff_getElem.1 h
  have : s[q] = a := by simpa using hq
  rw [List.getElem?_eq_getElem hl, this]
theorem nneGo_has {s : Bs} {a : UInt8} : ∀ {k p q : Nat}, s[p]? = some a → nneGo s [a] k p = some q → s[q]? = some a
  | 0, p, q, hp, h => by unfold nneGo at h; cases h; exact hp
  | k + 1, p, q, hp, h => by
    unfold nneGo at h
    split at h
    · split at h
      · cases h
      · split at h
        · cases h
        · rename_i q' hq'
          refine nneGo_has ?_ h
          have h1 := nextCS_has hq'
          rw [List.getElem?_drop] at h1
          rw [show q' + p + 1 = p + 1 + q' by omega]
          exact h1
    · cases h; exact hp
theorem nne_has {c : Bs} {a : UInt8} {st : Nat} (h : nne c [a] = some st) : c[st]? = some a := by
  unfold nne at h
  split at h
  · cases h
  · rename_i p hp
    exact nneGo_has (nextCS_has hp) h
theorem ctype_15 {s : Bs} (h : ctype s = 15) : s = b "regex" := by
  by_cases h15 : s = b "regex"
  · exact h15
  · exfalso
    unfold ctype at h
    rw [if_neg h15] at h
    have key : ∀ (c : Prop) [Decidable c] (x y : Int), x ≠ 15 → y ≠ 15 → (if c then x else y) ≠ 15 := fun c _ x y hx hy => by
      split
      · exact hx
      · exact hy
    exact (key _ _ _ (by decide) (key _ _ _ (by decide) (key _ _ _ (by decide) (key _ _ _ (by decide) (key _ _ _ (by decide) (key _ _ _ (by decide) (key _ _ _ (by decide) (key _ _ _ (by decide) (key _ _ _ (by decide) (key _ _ _ (by decide) (key _ _ _ (by decide) (key _ _ _ (by decide) (key _ _ _ (by decide) (by decide)))))))))))))) h
/-- Where the brackets stand the wrong way round the name is none of a pattern. -/
theorem wrong_way {c : Bs} {st en : Nat} (h1 : nne c [40] = some st) (h2 : lb c 41 = some en) (h : en < st + 1) : ctype (c.take st) ≠ 15 := by
  intro h15
  have h3 := ctype_15 h15
  have h4 := lbGo_has h2
  have h5 := nne_has h1
  have hne : en ≠ st := by rintro rfl; rw [h4] at h5; exact absurd (Option.some.inj h5) (by decide)
  have h6 : (c.take st)[en]? = some 41 := by rw [List.getElem?_take_of_lt (by omega)]; exact h4
  have h7 : (41 : UInt8) ∈ c.take st := List.mem_of_getElem? h6
  rw [h3] at h7
  revert h7
  decide +kernel
theorem allCons_snoc : ∀ (l : List Bs) (c : Bs) (cs : List Con) (x : Con), allCons l = some cs → oneCon c = some x → allCons (l ++ [c]) = some (cs ++ [x])
  | [], c, cs, x, h, hc => by
    unfold allCons at h; cases h
    simp [allCons, hc]
  | a :: l, c, cs, x, h, hc => by
    unfold allCons at h
    cases ha : oneCon a with
    | none => rw [ha] at h; cases h
    | some y =>
      rw [ha] at h
      simp only at h
      cases hl : allCons l with
      | none => rw [hl] at h; cases h
      | some r =>
        rw [hl] at h
        cases h
        show allCons (a :: (l ++ [c])) = _
        unfold allCons
        rw [ha, allCons_snoc l c r x hl hc]
        rfl
theorem allCons_none : ∀ (l : List Bs) (k : Nat) (c : Bs), l[k]? = some c → oneCon c = none → allCons l = none
  | [], k, c, h, hc => by simp at h
  | a :: l, 0, c, h, hc => by
    obtain rfl : a = c := by simpa using h
    unfold allCons; rw [hc]
  | a :: l, k + 1, c, h, hc => by
    unfold allCons
    cases ha : oneCon a with
    | none => rfl
    | some y =>
      simp only
      rw [allCons_none l k c (by simpa using h) hc]
theorem allCons_length : ∀ (l : List Bs) (cs : List Con), allCons l = some cs → cs.length = l.length
  | [], cs, h => by unfold allCons at h; cases h; rfl
  | a :: l, cs, h => by
    unfold allCons at h
    cases ha : oneCon a with
    | none => rw [ha] at h; cases h
    | some y =>
      rw [ha] at h
      simp only at h
      cases hl : allCons l with
      | none => rw [hl] at h; cases h
      | some r =>
        rw [hl] at h
        cases h
        simp [allCons_length l r hl]
theorem own_apart {w : World} {b1 b2 : Nat} {e1 e2 : TypeId} {s1 s2 n1 n2 : Nat} {v1 v2 : Value} {x1 x2 : List Value} (h1 : w.ownsRow b1 e1 s1 v1 n1 x1) (h2 : w.ownsRow b2 e2 s2 v2 n2 x2) (hne : e1 ≠ e2) {k : Nat} (hk : v1.ownBlock = some k) : v2.ownBlock ≠ some k := by
  intro hk2
  rcases h1.2 with ⟨rfl, _⟩ | ⟨g, cap, cur, rfl, _, hg, _⟩
  · simp [Value.ownBlock] at hk
  · rcases h2.2 with ⟨rfl, _⟩ | ⟨g2, cap2, cur2, rfl, _, hg2, _⟩
    · simp [Value.ownBlock] at hk2
    · simp only [Value.ownBlock, Option.some.injEq] at hk hk2
      subst hk
      subst hk2
      rw [hg] at hg2
      cases hg2
      exact hne rfl
theorem own_other {w : World} {b1 : Nat} {e1 e2 : TypeId} {s1 n1 : Nat} {v1 : Value} {x1 : List Value} {cs : Array Value} {k : Nat} (h1 : w.ownsRow b1 e1 s1 v1 n1 x1) (h2 : w.heap[k]? = some (.cells cs e2 (0, 0))) (hne : e1 ≠ e2) : v1.ownBlock ≠ some k := by
  intro hk
  rcases h1.2 with ⟨rfl, _⟩ | ⟨g, cap, cur, rfl, _, hg, _⟩
  · simp [Value.ownBlock] at hk
  · simp only [Value.ownBlock, Option.some.injEq] at hk
    subst hk
    rw [hg] at h2
    cases h2
    exact hne rfl
/-- The constraints that are laid so far. -/
structure CL (B : Nat) (L : List Bs) (k : Nat) (cons : List Con) (ks : List Nat) (v : Value) (W : World) : Prop where
  row : W.ownsRow B 84 1 v ks.length (ptrs ks)
  len : ks.length = cons.length
  done : allCons (L.take k) = some cons
  at_ : ∀ (i : Nat) (c : Con), cons[i]? = some c → ∃ kk d, ks[i]? = some kk ∧ B ≤ kk ∧ W.heap[kk]? = some (.cells #[.int .i16 c.id, d] 66 (0, 0)) ∧ W.ownsRow B 9 1 d c.data.length (svals c.data)
theorem CL.below {B : Nat} {L : List Bs} {k : Nat} {cons : List Con} {ks : List Nat} {v : Value} {W W2 : World} (h : CL B L k cons ks v W) (hb : Below W.heap.size W W2) : CL B L k cons ks v W2 :=
  ⟨own_below h.row hb, h.len, h.done, fun i c hc => by
    obtain ⟨kk, d, a1, a2, a3, a4⟩ := h.at_ i c hc
    exact ⟨kk, d, a1, a2, (hb.block kk (lt_of_obj a3)).trans a3, own_below a4 hb⟩⟩
theorem CL.push {B : Nat} {L : List Bs} {k : Nat} {cons : List Con} {ks : List Nat} {v v' d : Value} {W6 W7 W8 : World} {c : Bs} {con : Con} {K : Nat} (h : CL B L k cons ks v W6) (hb : Below W6.heap.size W6 W7) (hc : L[k]? = some c) (hcon : oneCon c = some con)
    (hK : B ≤ K) (ho : W7.heap[K]? = some (.cells #[.int .i16 con.id, d] 66 (0, 0))) (hd : W7.ownsRow B 9 1 d con.data.length (svals con.data))
    (hrow : W8.ownsRow B 84 1 v' (ks.length + 1) (ptrs ks ++ ptrs [K])) (hg : W7.grownBy W8 v.ownBlock) : CL B L (k + 1) (cons ++ [con]) (ks ++ [K]) v' W8 := by
  have h7 := h.below hb
  have keep : ∀ {kk : Nat} {cs : Array Value}, W7.heap[kk]? = some (.cells cs 66 (0, 0)) → W8.heap[kk]? = some (.cells cs 66 (0, 0)) := fun {kk cs} hh => (hg.block kk (lt_of_obj hh) (fun e => own_other h7.row hh (by decide) e.symm)).trans hh
  have keepd : ∀ {dd : Value} {n : Nat} {xs : List Value}, W7.ownsRow B 9 1 dd n xs → W8.ownsRow B 9 1 dd n xs := fun {dd n xs} hh => hh.kept hg (by
    cases hv : v.ownBlock with
    | none =>
      cases hdd : dd.ownBlock with
      | none => exact .inl rfl
      | some _ => exact .inr (by simp)
    | some g =>
      right
      exact own_apart h7.row hh (by decide) hv)
  refine ⟨?_, by simp [h.len], ?_, fun i x hx => ?_⟩
  · rw [List.length_append, show ptrs (ks ++ [K]) = ptrs ks ++ ptrs [K] by simp [ptrs]]
    exact hrow
  · obtain ⟨hl, he⟩ := List.getElem?_eq_some_iff.1 hc
    rw [← List.take_append_getElem hl, he]
    exact allCons_snoc _ _ _ _ h.done hcon
  · by_cases hi : i < cons.length
    · rw [List.getElem?_append_left hi] at hx
      obtain ⟨kk, dd, a1, a2, a3, a4⟩ := h7.at_ i x hx
      exact ⟨kk, dd, by rw [List.getElem?_append_left (by rw [h.len]; exact hi)]; exact a1, a2, keep a3, keepd a4⟩
    · rw [List.getElem?_append_right (by omega)] at hx
      obtain ⟨hl, _⟩ := List.getElem?_eq_some_iff.1 hx
      have hi0 : i - cons.length = 0 := by simp at hl; omega
      rw [hi0] at hx
      obtain rfl : con = x := by simpa using hx
      exact ⟨K, d, by rw [List.getElem?_append_right (by rw [h.len]; omega), h.len, hi0]; rfl, hK, keep ho, keepd hd⟩
theorem fin_cons {s : ByteArray} {P stars pluses st pl B : Nat} {sv pv cv : Value} {w wy : World} {q : Bs} {x : Seg} {L : List Bs} {k : Nat} {ks : List Nat} (hg : w.grownBy wy (some P))
    (hP : wy.heap[P]? = some (.cells #[sv, pv, .int .i64 (st : Nat), .int .i64 (pl : Nat)] 79 (0, 0))) (hB : w.heap.size ≤ B) (hcl : CL B L k x.cons ks cv wy) :
    PartEnd s P stars pluses sv pv (some (q, x, st, pl)) w (.returned (.tuple #[.string (bs q), .pointer (some ⟨wy.heap.size, 0, none⟩)])) (wy.alloc (.cells (segCells x cv).toArray 99)) := by
  refine ⟨wy.heap.size, cv, rfl, hg.size, seg_new wy x _, grown_alloc hg _, ?_, ?_⟩
  · rw [Below.heap_alloc wy _ P (lt_of_obj hP)]; exact hP
  · refine ⟨ks, hcl.len, own_base (hcl.row.alloc _) hB, fun e => by have := (hcl.row.lt _ e).2; omega, fun i c h => ?_⟩
    obtain ⟨kk, d, a1, a2, a3, a4⟩ := hcl.at_ i c h
    exact ⟨kk, a1, by omega, by have := lt_of_obj a3; omega, d, by rw [Below.heap_alloc wy _ kk (lt_of_obj a3)]; exact a3, own_base (a4.alloc _) hB, fun e => by have := (a4.lt _ e).2; omega⟩
theorem paramPart_cons {p : Bs} {a z st pl : Nat} (hst : stOf p = some a) (hen : enOf p = some z) :
    paramPart p st pl = if z < a + 1 then none else (allCons (splitNE ((p.drop (a + 1)).take (z - (a + 1))) 59)).map (fun cons => partOf p st pl (unesc (trimmed (p.take a))) cons) := by
  unfold paramPart partOf
  unfold stOf at hst
  unfold enOf at hen
  simp only [hst, hen]
  split
  · rfl
  · cases allCons (splitNE ((p.drop (a + 1)).take (z - (a + 1))) 59) <;> rfl
theorem stOf_head {p : Bs} {a : Nat} (h : stOf p = some a) : ¬ p.head? = some 42 ∧ ¬ p.head? = some 43 := by
  refine ⟨fun h1 => ?_, fun h1 => ?_⟩
  · unfold stOf at h
    rw [pe_greedy (.inl h1)] at h
    cases h
  · unfold stOf at h
    rw [pe_greedy (.inr h1)] at h
    cases h
theorem splitGo_len (sep : UInt8) : ∀ (k : Nat) (s : Bs), (splitGo sep k s).length ≤ s.length + 1
  | 0, s => by simp [splitGo]
  | k + 1, s => by
    cases h : nne s [sep] with
    | none => rw [splitGo_none h]; simp
    | some i =>
      rw [splitGo_some h, List.length_cons]
      have h1 := splitGo_len sep k (s.drop (i + 1))
      have h2 := nne_lt h
      rw [List.length_drop] at h1
      omega
theorem splitNE_len (s : Bs) (sep : UInt8) : (splitNE s sep).length ≤ s.length + 1 := splitGo_len sep _ s
theorem splitGo_mem (sep : UInt8) : ∀ (k : Nat) (s : Bs) {c : Bs}, c ∈ splitGo sep k s → c.length ≤ s.length
  | 0, s, c, h => by simp [splitGo] at h; rw [h]; exact Nat.le_refl _
  | k + 1, s, c, h => by
    cases hn : nne s [sep] with
    | none => rw [splitGo_none hn] at h; simp at h; rw [h]; exact Nat.le_refl _
    | some i =>
      rw [splitGo_some hn] at h
      rcases List.mem_cons.1 h with rfl | h
      · rw [List.length_take]; omega
      · have := splitGo_mem sep k _ h
        rw [List.length_drop] at this
        omega
theorem splitNE_mem {s : Bs} {sep : UInt8} {c : Bs} (h : c ∈ splitNE s sep) : c.length ≤ s.length := splitGo_mem sep _ s h
theorem CL.length {B : Nat} {L : List Bs} {k : Nat} {cons : List Con} {ks : List Nat} {v : Value} {W : World} (h : CL B L k cons ks v W) (hk : k ≤ L.length) : ks.length = k := by
  rw [h.len, allCons_length _ _ h.done, List.length_take]; omega
theorem set_two {cur : Array Value} {cap : Nat} {y z : Value} (hs : cur.size = cap * 1) (h1 : 2 ≤ cap) : ((cur.setIfInBounds 0 y).setIfInBounds 1 z).toList.take (2 * 1) = [y, z] := by
  obtain ⟨l⟩ := cur
  rcases l with _ | ⟨a, _ | ⟨b, l⟩⟩
  · simp at hs; omega
  · simp at hs; omega
  · simp

theorem cur_at {cur : Array Value} {l : List Bs} {n : Nat} (h : cur.toList.take (n * 1) = svals l) (hn : n ≤ l.length) (j : Nat) {d : Bs} (hd : l[j]? = some d) : cur[j]? = some (.string (bs d)) := by
  have h1 : (svals l)[j]? = some (.string (bs d)) := by unfold svals; rw [List.getElem?_map, hd]; rfl
  rw [← h] at h1
  have hj : j < n * 1 := by
    rcases Nat.lt_or_ge j (n * 1) with h2 | h2
    · exact h2
    · rw [List.getElem?_eq_none (by rw [List.length_take]; omega)] at h1; cases h1
  rw [List.getElem?_take_of_lt hj] at h1
  simpa using h1
set_option maxHeartbeats 8000000 in
set_option maxRecDepth 100000 in
theorem part_cons (s : ByteArray) (P stars pluses : Nat) (sv pv : Value) (w : World) (hs : s.size ≤ 1000000000) (h0 : 0 < s.size)
    (hP : w.heap[P]? = some (.cells #[sv, pv, .int .i64 stars, .int .i64 pluses] 79 (0, 0))) (a z : Nat) (hst : stOf s.data.toList = some a) (hen : enOf s.data.toList = some z) :
    Calls Tryz.prog 53 #[.pointer (some ⟨P, 0, none⟩), .string s] w (PartEndD s P stars pluses sv pv (paramPart s.data.toList stars pluses) w) := by
  obtain ⟨R, hR⟩ : ∃ R, R = paramPart s.data.toList stars pluses := ⟨_, rfl⟩
  rw [← hR]
  have hRR := hR.trans (paramPart_cons hst hen)
  have HRR := Lib.hid hRR
  have HHEAD := Lib.hid (stOf_head hst)
  clear hR hRR
  have HST := Lib.hid hst
  have HEN := Lib.hid hen
  clear hst hen
  have HP := Lib.hid hP
  clear hP
  go_enter Tryz.func53, Tryz.ntmps53
  go_upto_region 4 with fail
  generalize hwi : (((s[0]'h0).toNat : Int) == 42) = wild
  generalize hpi : (((s[0]'h0).toNat : Int) == 43) = plus
  have HWI := Lib.hid hwi
  have HPI := Lib.hid hpi
  clear hwi hpi
  go_cut [34] from 23 to 34 (fun v wx => v = .bool (s.data.toList.contains 60 && s.data.toList.contains 62) ∧ Below w.heap.size w wx)
  case first =>
    cases hA : s.data.toList.contains 60 with
    | false =>
      have HA := Lib.hid hA
      clear hA
      go_wp2_with (go_at_call 66; refine (containsRune_any s 60 (by decide) _ (by omega)).mono ?_; rintro e w1 ⟨rfl, hb1⟩; rw [HA.out])
      go_meet
      case rel => exact ⟨by rw [HA.out]; rfl, hb1⟩
    | true =>
      have HA := Lib.hid hA
      clear hA
      go_wp2_with (first | (go_at_call 66; refine (containsRune_any s 60 (by decide) _ (by omega)).mono ?_; rintro e w1 ⟨rfl, hb1⟩; rw [HA.out]) | (go_at_call 66; refine (containsRune_any s 62 (by decide) _ (by omega)).mono ?_; rintro e w2 ⟨rfl, hb2⟩))
      go_meet
      case rel => exact ⟨by rw [HA.out]; simp, hb1.trans (hb2.mono hb1.size)⟩
  case rest =>
  obtain ⟨rfl, hb⟩ := hcut
  have HB := Lib.hid hb
  clear hb
  go_upto_if 34 with fail
  go_cut [8] from 34 to 42 (fun v wx => v = .int .i64 (endA s.data.toList) ∧ Below w.heap.size w wx)
  case first =>
    have hex := Lib.hid (extract_from s 1)
    have hex2 := Lib.hid (extract_range s 1 s.size)
    have e4 : (1 : Int) ≤ (s.size : Int) := by omega
    cases hA : (s.data.toList.contains 60 && s.data.toList.contains 62) with
    | false =>
      have HA := Lib.hid (show endA s.data.toList = oi (nne (s.data.toList.drop 1) ends) by unfold endA; rw [hA]; rfl)
      go_upto_region 6 with fail
      go_region_with (first | (go_at_call 68; refine (chars68 _).mono ?_; rintro e w2 ⟨g2, cap2, rfl, hc2, _, _, hb2⟩) | (go_at_call 64; refine (nne_any _ g2 0 cap2 ends _ (by simp; omega) (by decide) (by assumption)).mono ?_; rintro e w2' ⟨rfl, rfl⟩; rw [hex.out, ← HA.out]))
      all_goals
        go_wp2_with fail
        go_meet
        exact ⟨rfl, HB.out.drew.trans (hb2.mono HB.out.size)⟩
    | true =>
      have HA := Lib.hid (show endA s.data.toList = nextCon (s.data.toList.drop 1) ends by unfold endA; rw [hA]; rfl)
      go_upto_region 5 with fail
      go_region_with (first | (go_at_call 68; refine (chars68 _).mono ?_; rintro e w2 ⟨g2, cap2, rfl, hc2, _, hg2, hb2⟩) | (go_at_call 67; refine (nextCon_any _ g2 0 cap2 ends _ (by simp; omega) (by decide) (by assumption) (by assumption)).mono ?_; rintro e w3 ⟨rfl, hb3⟩; rw [hex.out, ← HA.out]))
      all_goals
        go_wp2_with fail
        go_meet
        exact ⟨rfl, HB.out.drew.trans ((hb2.mono HB.out.size).trans (hb3.mono (Nat.le_trans HB.out.size hb2.size)))⟩
  case rest =>
  obtain ⟨rfl, hb⟩ := hcut
  have HB := Lib.hid hb
  clear hb
  have hE := endA_range s h0
  obtain ⟨E, hEe⟩ : ∃ E, E = endA s.data.toList := ⟨_, rfl⟩
  rw [← hEe] at hE
  rw [← hEe]
  have HE := Lib.hid hEe
  clear hEe
  have HL := Lib.hid (show s.data.toList.length = s.size from size_data s)
  have hhd := Lib.hid (head_of s h0)
  go_upto_block 0 with fail
  go_cut [6, 7, 8] from 43 to 61 (fun a b v wx => a = .bool wild ∧ b = .bool plus ∧ v = .int .i64 (paramEnd s.data.toList) ∧ Below w.heap.size w wx)
  case first =>
    cases hw : wild with
    | true =>
      have HQ := Lib.hid (pe_greedy (p := s.data.toList) (.inl (by rw [hhd.out]; exact congrArg some (u8_yes (HWI.out.trans hw) 42 rfl))))
      have HW := Lib.hid hw
      clear hw
      go_wp2
      go_meet
      case rel => exact ⟨congrArg Value.bool HW.out.symm, rfl, by rw [HQ.out]; rfl, HB.out⟩
    | false =>
      cases hp : plus with
      | true =>
        have HQ := Lib.hid (pe_greedy (p := s.data.toList) (.inr (by rw [hhd.out]; exact congrArg some (u8_yes (HPI.out.trans hp) 43 rfl))))
        have HW := Lib.hid hw
        have HPl := Lib.hid hp
        clear hw hp
        go_wp2
        go_meet
        case rel => exact ⟨congrArg Value.bool HW.out.symm, congrArg Value.bool HPl.out.symm, by rw [HQ.out]; rfl, HB.out⟩
      | false =>
        have HN := Lib.hid (show ¬ (s.data.toList.head? = some 42 ∨ s.data.toList.head? = some 43) by
          rw [hhd.out]
          rintro (h | h)
          · exact u8_no (HWI.out.trans hw) 42 rfl (Option.some.inj h)
          · exact u8_no (HPI.out.trans hp) 43 rfl (Option.some.inj h))
        have HW := Lib.hid hw
        have HPl := Lib.hid hp
        clear hw hp
        by_cases hm : E = -1
        · have HQ := Lib.hid (pe_last HN.out (HE.out.symm.trans hm))
          have e1 : (1 : Int) ≤ s.size := by omega
          subst hm
          go_wp2
          go_meet
          case rel =>
            refine ⟨congrArg Value.bool HW.out.symm, congrArg Value.bool HPl.out.symm, ?_, HB.out⟩
            rw [HQ.out, HL.out]
            go_num
        · obtain ⟨k, rfl⟩ : ∃ k : Nat, E = k := ⟨E.toNat, by omega⟩
          have hk : k + 1 < s.size := by omega
          have hkm : ((k : Int) == -1) = false := by rw [beq_eq_false_iff_ne]; omega
          have HQ := Lib.hid (pe_mid HN.out HE.out.symm hk)
          have e1 : IntKind.i64.wrap ((k : Int) + 1) = (k : Int) + 1 := IntWalk.i64_in _ (by omega)
          have e2 : (0 : Int) ≤ (k : Int) + 1 := by omega
          have e3 : ((k : Int) + 1).toNat = k + 1 := by omega
          have e4 : (k : Int) + 1 < (s.size : Int) := by omega
          clear hm hE
          go_upto_region 14 with fail
          go_region_with (first | (go_at_call 70; refine (chars70 _).mono ?_; rintro e w2 ⟨g2, cap2, rfl, hc2, _, hg2, hb2⟩) | (go_at_call 69; refine (in_any (s[k + 1]'hk) g2 0 cap2 delims _ (by decide) (by assumption)).mono ?_; rintro e w3 ⟨rfl, rfl⟩))
          all_goals go_wp2
          all_goals go_meet
          all_goals first
            | (have hd : (!decide (s[k + 1]'hk ∈ delims)) = true := by assumption
               exact ⟨congrArg Value.bool HW.out.symm, congrArg Value.bool HPl.out.symm, by rw [HQ.out, if_neg (by rw [List.contains_iff_mem]; simpa using hd)]; rfl, HB.out.drew.trans (hb2.mono HB.out.size)⟩)
            | (have hd : (!decide (s[k + 1]'hk ∈ delims)) = false := by assumption
               exact ⟨congrArg Value.bool HW.out.symm, congrArg Value.bool HPl.out.symm, by rw [HQ.out, if_pos (by rw [List.contains_iff_mem]; simpa using hd)], HB.out.drew.trans (hb2.mono HB.out.size)⟩)
  case rest =>
  obtain ⟨rfl, rfl, rfl, hb⟩ := hcut
  clear HB
  have HB := Lib.hid hb
  clear hb
  clear hE HE E
  obtain ⟨e, hee⟩ : ∃ e, e = paramEnd s.data.toList := ⟨_, rfl⟩
  have hle := paramEnd_lt s h0
  rw [← hee] at hle
  rw [← hee]
  have HE := Lib.hid hee
  clear hee
  go_upto_if 63 with fail
  go_cut [9, 10] from 62 to 74 (fun a b wx => a = .int .i64 (oi (stOf s.data.toList)) ∧ b = .int .i64 (oi (enOf s.data.toList)) ∧ Below w.heap.size w wx)
  case first =>
    by_cases he : 0 < e
    · have HS := Lib.hid (show stOf s.data.toList = nne (s.data.toList.take e) [60] by unfold stOf; rw [← HE.out, if_pos he])
      have HN := Lib.hid (show enOf s.data.toList = lb (s.data.toList.take (e + 1)) 62 by unfold enOf; rw [← HE.out, if_pos he])
      have hex := Lib.hid (take_ext s e)
      have hex1 := Lib.hid (take_ext s (e + 1))
      have e1 : IntKind.i64.wrap ((e : Int) + 1) = (e : Int) + 1 := IntWalk.i64_in _ (by omega)
      have e2 : (0 : Int) ≤ (e : Int) + 1 := by omega
      have e3 : ((e : Int) + 1).toNat = e + 1 := by omega
      have e4 : (e : Int) + 1 ≤ (s.size : Int) := by omega
      have e5 : (e : Int) ≤ (s.size : Int) := by omega
      go_upto_region 17 with fail
      go_region_with (first | (go_at_call 71; refine (chars71 _).mono ?_; rintro e w2 ⟨g2, cap2, rfl, hc2, _, hg2, hb2⟩) | (go_at_call 64; refine (nne_any _ g2 0 cap2 [60] _ (by simp; omega) (by decide) (by assumption)).mono ?_; rintro e w2' ⟨rfl, rfl⟩; rw [hex.out, ← HS.out]))
      all_goals
        go_upto_region 18 with fail
        go_region_with (first | (go_at_call 73; refine (chars73 _).mono ?_; rintro e w3 ⟨g3, cap3, rfl, hc3, _, hg3, hb3⟩) | (go_at_call 72; refine (last_any _ g3 0 cap3 62 _ (by simp; omega) (by assumption)).mono ?_; rintro e w3' ⟨rfl, rfl⟩; rw [hex1.out, ← HN.out]))
        all_goals
          go_wp2_with fail
          go_meet
          case rel => exact ⟨rfl, rfl, (HB.out.drew.trans (hb2.mono HB.out.size)).drew.trans (hb3.mono (Nat.le_trans HB.out.size hb2.size))⟩
    · obtain rfl : e = 0 := by omega
      have HS := Lib.hid (show stOf s.data.toList = none by unfold stOf; rw [← HE.out, if_neg (by omega)])
      have HN := Lib.hid (show enOf s.data.toList = none by unfold enOf; rw [← HE.out, if_neg (by omega)])
      go_wp2
      go_meet
      case rel => exact ⟨by rw [HS.out]; rfl, by rw [HN.out]; rfl, HB.out⟩
  case rest =>
  obtain ⟨rfl, rfl, hb⟩ := hcut
  clear HB
  have HB := Lib.hid hb
  clear hb
  have e1 : IntKind.i64.wrap ((e : Int) + 1) = (e : Int) + 1 := IntWalk.i64_in _ (by omega)
  have hex1 := Lib.hid (take_ext s (e + 1))
  go_upto_region 22 with (first | (go_at_call 74; refine (trimmed_any _ _ (by simp; omega)).mono ?_; rintro e w2 ⟨rfl, rfl⟩; rw [hex1.out]) | (go_at_call 51; refine (unesc_any _ _ (by have := trimmed_le (s.data.toList.take (e + 1)); simp at this; simp [bs_size]; omega)).mono ?_; rintro e w3 ⟨rfl, hb3⟩; rw [bs_data]))
  have HB3 := Lib.hid (HB.out.trans (hb3.mono HB.out.size))
  clear HB hb3
  have hlen : (unesc (trimmed (s.data.toList.take (e + 1)))).length ≤ 1000000000 := by
    have h1 := trimmed_le (s.data.toList.take (e + 1))
    have h2 := List.length_filter_le (· != 92) (trimmed (s.data.toList.take (e + 1)))
    rw [List.length_take] at h1
    rw [HL.out] at h1
    show (List.filter (· != 92) _).length ≤ _
    omega
  obtain ⟨nm, hnm⟩ : ∃ nm, nm = unesc (trimmed (s.data.toList.take (e + 1))) := ⟨_, rfl⟩
  rw [← hnm] at hlen
  rw [← hnm]
  have HNM := Lib.hid hnm
  clear hnm
  have hzl : z < s.size ∧ z ≤ e := by
    have h1 := HEN.out
    unfold enOf at h1
    split at h1
    · have h2 := lb_lt h1
      rw [List.length_take, HL.out, ← HE.out] at h2
      omega
    · cases h1
  have hzs := hzl.1
  clear hzl
  go_cut [9, 10, 14] from 75 to 87 (fun x y v wx => x = .int .i64 a ∧ y = .int .i64 z ∧ v = .bool true ∧ Below w.heap.size w wx)
  case first =>
    rw [HST.out, HEN.out, oi_some, oi_some]
    have hbn : ((a : Int) != -1) = true := by simp [bne_iff_ne]
    have hbn2 : ((z : Int) != -1) = true := by simp [bne_iff_ne]
    go_wp2
    go_meet
    case rel => exact ⟨rfl, rfl, rfl, HB3.out⟩
  case rest =>
  obtain ⟨rfl, rfl, rfl, hb⟩ := hcut
  clear HB3
  have HB := Lib.hid hb
  clear hb
  obtain ⟨i84, hi84, hz84, hz841, hz842⟩ := info_parts info84
  by_cases haz : z < a + 1
  · have HD := Lib.hid (show R = none by rw [HRR.out, if_pos haz])
    have hal : a < s.size := by
      have h1 := HST.out
      unfold stOf at h1
      split at h1
      · have h2 := nne_lt h1
        rw [List.length_take, HL.out] at h2
        omega
      · cases h1
    have hw1 : IntKind.i64.wrap ((a : Int) + 1) = (a : Int) + 1 := IntWalk.i64_in _ (by omega)
    obtain ⟨bb, qq, hdie⟩ := slice_low Tryz.prog wc 9 s .i64 .i64 ((a : Int) + 1) z under9 (by omega) (.inr (by omega))
    go_upto_region 24 with fail
    go_wp2_with fail
    have hfin : PartEndD s P stars pluses sv pv R w (.panicked [{ v := boundsValue Tryz.prog ((a : Int) + 1) z bb 3, recovered := false }]) (wc.drewN qq) := by
      rw [HD.out]
      exact ⟨⟨_, _, rfl⟩, grown_of ⟨HB.out.os, HB.out.tape, HB.out.output, HB.out.size, HB.out.block⟩⟩
    exact ⟨rfl, hfin⟩
  have haz' : a + 1 ≤ z := by omega
  have HALL := Lib.hid (show R = (allCons (splitNE ((s.data.toList.drop (a + 1)).take (z - (a + 1))) 59)).map (fun cons => partOf s.data.toList stars pluses (unesc (trimmed (s.data.toList.take a))) cons) by rw [HRR.out, if_neg haz])
  clear haz HRR
  have haz := haz'
  clear haz'
  obtain ⟨cs, hcs⟩ : ∃ cs, cs = s.extract (a + 1) z := ⟨_, rfl⟩
  have hcsd : cs.data.toList = (s.data.toList.drop (a + 1)).take (z - (a + 1)) := by rw [hcs, extract_range]
  have hcsz : cs.size ≤ 1000000000 := by rw [← size_data, hcsd, List.length_take, List.length_drop, HL.out]; omega
  rw [← hcsd] at HALL
  obtain ⟨L, hL⟩ : ∃ L, L = splitNE cs.data.toList 59 := ⟨_, rfl⟩
  rw [← hL] at HALL
  obtain ⟨n, hn⟩ : ∃ n, n = L.length := ⟨_, rfl⟩
  have hn0 : 0 < n := by rw [hn, hL]; exact List.length_pos_iff.2 (splitGo_ne _ _ _)
  have hn1 : n ≤ 1000000001 := by have := splitNE_len cs.data.toList 59; rw [size_data] at this; rw [hn, hL]; omega
  have HLs := Lib.hid (show ∀ c ∈ L, c.length ≤ 1000000000 from fun c hc => by rw [hL] at hc; have := splitNE_mem hc; rw [size_data] at this; omega)
  have HLL := Lib.hid hL
  have HNL := Lib.hid hn
  obtain ⟨mk, hmkd⟩ : ∃ mk, mk = madeCells #[.pointer none] n := ⟨_, rfl⟩
  have hmks : mk.size = n := by rw [hmkd, size_madeCells]
  have hmk : ∀ W : World, (Instr.makeSlice 97 (.int .i64 0) (.int .i64 (n : Int))).run Tryz.prog W = .ok (.slice (some ⟨W.heap.size, 0, none⟩) 0 n) (W.alloc (.cells mk 84)) := fun W => by
    have h := run_make (P := Tryz.prog) W 97 84 i84 (.pointer none) Tryz.underlying97 hi84 hz84 .i64 .i64 0 (n : Int) (by omega) (by omega) (by rw [hz842]; omega) (by omega)
    rw [hz841, Int.toNat_natCast, Nat.mul_one] at h
    rw [hmkd]
    exact h
  clear hmkd hL hn
  go_upto_region 25 with fail
  rw [← hcs]
  clear hcs hcsd
  go_wp2_with (first
    | (go_at_call 76; refine (chars76 _).mono ?_; rintro e w2 ⟨g2, cap2, rfl, hc2, _, hg2, hb2⟩; have hcv : (convert 23 9 (.slice (some ⟨g2, 0, none⟩) 1 cap2)).run Tryz.prog w2 = .ok (.string (bs [59])) w2 := conv_back cap2 hc2)
    | (go_at_call 75; refine (split_any cs 59 _ hcsz).mono ?_; rintro e w3 ⟨v3, rfl, hown3, hb3⟩; rw [← HLL.out, ← HNL.out] at hown3; obtain ⟨g3, cap3, rfl, hg3a, hg3b, hcells3⟩ := own_some hown3 hn0))
  obtain ⟨Wm, hWm⟩ : ∃ Wm, Wm = w3.alloc (.cells mk 84) := ⟨_, rfl⟩
  rw [← hWm]
  have hbm : Below w3.heap.size w3 Wm := by rw [hWm]; exact (Below.refl _ _).alloc (Nat.le_refl _) _
  have hzm : Wm.heap.size = w3.heap.size + 1 := by rw [hWm]; simp
  have howm : Wm.ownsRow (w3.heap.size) 84 1 (.slice (some ⟨w3.heap.size, 0, none⟩) 0 n) 0 [] := by rw [hWm]; exact World.ownsRow_made w3 mk n (Nat.le_refl _) (by simp [maxLen]; omega) (by omega)
  have hbase : w.heap.size ≤ w3.heap.size := by have := HB.out.size; have := hb2.size; have := hb3.size; omega
  have HW3 := Lib.hid (HB.out.trans ((hb2.mono HB.out.size).trans (hb3.mono (Nat.le_trans HB.out.size hb2.size))))
  have HCL := Lib.hid (show CL w3.heap.size L 0 [] [] (.slice (some ⟨w3.heap.size, 0, none⟩) 0 n) Wm from ⟨howm, rfl, rfl, fun i c h => by simp at h⟩)
  have HBM := Lib.hid hbm
  have HC3 := Lib.hid (show ∀ (i : Nat) (c : Bs), L[i]? = some c → w3.cell? ⟨g3, i, none⟩ = some (.string (bs c)) from fun i c h => hcells3 i _ (by unfold svals; rw [List.getElem?_map, h]; rfl))
  obtain ⟨B, hBd⟩ : ∃ B, B = w3.heap.size := ⟨_, rfl⟩
  have HBD := Lib.hid hBd
  clear hb2 hb3 hbm hc2 hcv hown3 hcells3 howm hmk hWm hzm hg3a
  go_loopw [13, 18, 19, 20, 21, 103] (fun v _ _ _ _ i wr => ∃ (k : Nat) (cons : List Con) (ks : List Nat), k ≤ n ∧ i = .int .i64 k ∧ CL w3.heap.size L k cons ks v wr ∧ Below w3.heap.size w3 wr) (fun _ _ _ _ _ i _ => n - (intOf i).toNat)
  case atStart => exact ⟨0, [], [], Nat.zero_le _, rfl, HCL.out, HBM.out⟩
  case round =>
    obtain ⟨k, cons, ks, hk, rfl, hcl, hbr⟩ := hrel
    have HR := Lib.hid hcl
    have HBR := Lib.hid hbr
    obtain ⟨va, vcap, rfl⟩ := own_form hcl.row
    clear hcl hbr HCL
    by_cases hlt : k < n
    · obtain ⟨c, hc⟩ : ∃ c, L[k]? = some c := ⟨L[k]'(by have := HNL.out; omega), List.getElem?_eq_getElem (by have := HNL.out; omega)⟩
      have hcl : c.length ≤ 1000000000 := HLs.out c (List.mem_of_getElem? hc)
      have hcell := (HBR.out.cell (p := ⟨g3, k, none⟩) hg3b).trans (HC3.out k c hc)
      have HC := Lib.hid hc
      clear hc
      have hks : ks.length ≤ 1000000001 := by have := HR.out.length (by have := HNL.out; omega); omega
      go_upto_region 32 with (first
        | (go_at_call 77; refine (chars77 _).mono ?_; rintro e w5 ⟨g5, cap5, rfl, hc5, _, hg5, hb5⟩)
        | (go_at_call 64; refine (nne_any (bs c) g5 0 cap5 [40] _ (by rw [bs_size]; omega) (by decide) (by assumption)).mono ?_; rintro e w5' ⟨rfl, rfl⟩; rw [bs_data])
        | (go_at_call 78; refine (chars78 _).mono ?_; rintro e w6 ⟨g6, cap6, rfl, hc6, _, hg6, hb6⟩)
        | (go_at_call 72; refine (last_any (bs c) g6 0 cap6 41 _ (by rw [bs_size]; omega) (by assumption)).mono ?_; rintro e w6' ⟨rfl, rfl⟩; rw [bs_data]))
      have hb56 : Below wr.heap.size wr w6 := hb5.trans (hb6.mono hb5.size)
      have HR6 := Lib.hid (HR.out.below hb56)
      have HB6 := Lib.hid (HBR.out.trans (hb56.mono HBR.out.size))
      have hz6 : w3.heap.size ≤ w6.heap.size := HB6.out.size
      clear hb5 hb6 hb56 hc5 hc6 hcell
      obtain ⟨b0, hb0⟩ : ∃ b0, b0 = ((nne c [40]).isSome && (lb c 41).isSome) := ⟨_, rfl⟩
      have HB0 := Lib.hid hb0
      clear hb0
      go_cut [19, 20, 118] from 107 to 118 (fun x y v wx => x = .int .i64 (oi (nne c [40])) ∧ y = .int .i64 (oi (lb c 41)) ∧ v = .bool b0 ∧ w6 = wx)
      case first =>
        cases hn : nne c [40] with
        | none =>
          have HNN := Lib.hid hn
          have HQ := Lib.hid (show b0 = false by rw [HB0.out, hn]; rfl)
          rw [oi_none]
          clear hn
          go_wp2
          go_meet
          case rel => exact ⟨by first | rfl | (rw [HNN.out]; rfl), rfl, by rw [HQ.out], rfl⟩
        | some k1 =>
          have HNN := Lib.hid hn
          have h1 : ((k1 : Int) != -1) = true := by simp [bne_iff_ne]
          cases hl : lb c 41 with
          | none =>
            have HLM := Lib.hid hl
            have HQ := Lib.hid (show b0 = false by rw [HB0.out, hl]; simp)
            rw [oi_none, oi_some]
            clear hn hl
            go_wp2
            go_meet
            case rel => exact ⟨by first | rfl | (rw [HNN.out]; rfl), by first | rfl | (rw [HLM.out]; rfl), by rw [HQ.out], rfl⟩
          | some k2 =>
            have HLM := Lib.hid hl
            have h2 : ((k2 : Int) != -1) = true := by simp [bne_iff_ne]
            have HQ := Lib.hid (show b0 = true by rw [HB0.out, hn, hl]; rfl)
            rw [oi_some, oi_some]
            clear hn hl
            go_wp2
            go_meet
            case rel => exact ⟨by first | rfl | (rw [HNN.out]; rfl), by first | rfl | (rw [HLM.out]; rfl), by rw [HQ.out], rfl⟩
      case rest =>
      obtain ⟨rfl, rfl, rfl, rfl⟩ := hcut
      cases hbv : b0 with
      | false =>
        have HCON := Lib.hid (oneCon_other (c := c) (by rw [← HB0.out]; exact hbv))
        clear hbv HB0
        go_wp2_with (first
          | (go_at_call 79; refine (ctype_any (bs c) _).mono ?_; rintro e w7 ⟨rfl, rfl⟩; rw [bs_data])
          | (at_builtin; refine wpList_append_own _ rfl (.tmp 193) (.tmp 199) 97 rfl w3.heap.size 84 i84 (.pointer none) 1 8 Tryz.underlying97 hi84 hz84 hz841 hz842 rfl (by decide) _ _ _ (by rfl) (((HR6.out.row.alloc _).alloc _).alloc _) ⟨w6.heap.size + 1 + 1, 0, none⟩ 1 1 (ptrs [w6.heap.size + 1]) (by rfl) rfl (by intro j y hy; rw [add_cell, Nat.zero_add]; simp [cell_alloc, objCell]; simpa [ptrs] using hy) (ptrs_one1 _) (by simp [maxLen]; omega) (by omega) (by simp; omega) ?_; intro v' w8 hown' hgrow hnil'))
        have s1 : (w6.alloc (.cells #[] 9)).heap.size = w6.heap.size + 1 := by simp
        obtain ⟨W7, hW7⟩ : ∃ W7, W7 = ((w6.alloc (.cells #[] 9)).alloc (.cells #[.int .i16 (ctype c), .slice (some ⟨w6.heap.size, 0, none⟩) 0 0] 66)).alloc (.cells #[.pointer (some ⟨w6.heap.size + 1, 0, none⟩)] 84) := ⟨_, rfl⟩
        rw [← hW7] at hgrow
        have hb7 : Below w6.heap.size w6 W7 := by rw [hW7]; exact (((Below.refl _ _).alloc (Nat.le_refl _) _).alloc (by simp) _).alloc (by simp; omega) _
        have hk1 : W7.heap[w6.heap.size + 1]? = some (.cells #[.int .i16 (ctype c), .slice (some ⟨w6.heap.size, 0, none⟩) 0 0] 66 (0, 0)) := by rw [hW7]; exact (Below.heap_alloc _ _ _ (by simp)).trans (by rw [← s1, heap_alloc_new])
        have hk0 : W7.heap[w6.heap.size]? = some (.cells #[] 9 (0, 0)) := by rw [hW7]; exact (Below.heap_alloc _ _ _ (by simp; omega)).trans ((Below.heap_alloc _ _ _ (by simp)).trans (heap_alloc_new w6 _))
        have HCL8 := Lib.hid (HR6.out.push (con := ⟨ctype c, []⟩) (d := .slice (some ⟨w6.heap.size, 0, none⟩) 0 0) hb7 HC.out HCON.out (K := w6.heap.size + 1) (by omega) hk1 ⟨rfl, .inr ⟨w6.heap.size, 0, #[], rfl, by omega, hk0, Nat.le_refl _, by simp [maxLen], rfl, rfl⟩⟩ hown' hgrow)
        have HBW8 := Lib.hid ((HB6.out.trans (hb7.mono hz6)).grown hgrow (by have := hb7.size; omega) (fun k' h => ((HR6.out.row.lt k' h).1)))
        clear hown' hgrow hnil' hk1 hk0 hb7 hW7 s1
        go_roundw
        case rel => exact ⟨k + 1, _, _, by omega, by go_num, HCL8.out, HBW8.out⟩
        case measure => simp [intOf]; omega
      | true =>
        obtain ⟨st, hn⟩ : ∃ st, nne c [40] = some st := by
          cases hn : nne c [40] with
          | none => exfalso; have := HB0.out; rw [hbv, hn] at this; cases this
          | some st => exact ⟨st, rfl⟩
        obtain ⟨en, hl⟩ : ∃ en, lb c 41 = some en := by
          cases hl : lb c 41 with
          | none => exfalso; have := HB0.out; rw [hbv, hl] at this; simp at this
          | some en => exact ⟨en, rfl⟩
        have hstl : st < c.length := nne_lt hn
        have henl : en < c.length := lb_lt hl
        have hone := oneCon_both hn hl
        have hww := wrong_way hn hl
        rw [hn, hl, oi_some, oi_some]
        have hx0 : ((bs c).extract 0 st).data.toList = c.take st := by rw [take_ext, bs_data]
        have HX0 := Lib.hid hx0
        have hx1 : ((bs c).extract (st + 1) en).data.toList = (c.drop (st + 1)).take (en - (st + 1)) := by rw [extract_range, bs_data]
        have HX1 := Lib.hid hx1
        obtain ⟨id, hid⟩ : ∃ id, id = ctype (c.take st) := ⟨_, rfl⟩
        obtain ⟨D, hD⟩ : ∃ D, D = splitNE ((c.drop (st + 1)).take (en - (st + 1))) 44 := ⟨_, rfl⟩
        rw [← hid] at hww
        rw [← hid, ← hD] at hone
        have HID := Lib.hid hid
        have HDD := Lib.hid hD
        have HONE := Lib.hid hone
        have HWW := Lib.hid hww
        clear hn hl hone hww hx0 hx1 hid hD hbv HB0
        have i2 : (en : Int) ≤ (c.length : Int) := by omega
        have i3 : (0 : Int) ≤ (st : Int) + 1 := by omega
        have i4 : ((st : Int) + 1).toNat = st + 1 := by omega
        have i5 : IntKind.i64.wrap ((st : Int) + 1) = (st : Int) + 1 := IntWalk.i64_in _ (by omega)
        have i6 : en ≤ c.length := by omega
        go_upto_if 129 with (go_at_call 79; refine (ctype_any _ _).mono ?_; rintro e w7 ⟨rfl, rfl⟩; rw [HX0.out])
        rw [← HID.out]
        obtain ⟨X, hX⟩ : ∃ X, X = w6.alloc (.cells #[.int .i16 id, .slice none 0 0] 66) := ⟨_, rfl⟩
        try rw [← hX]
        have hbx : Below w6.heap.size w6 X := by rw [hX]; exact (Below.refl _ _).alloc (Nat.le_refl _) _
        have hxo : X.heap[w6.heap.size]? = some (.cells #[.int .i16 id, .slice none 0 0] 66 (0, 0)) := by rw [hX, heap_alloc_new]
        have hxz : X.heap.size = w6.heap.size + 1 := by rw [hX]; simp
        clear hX
        by_cases hwrong : en < st + 1
        · have HRN := Lib.hid (show R = none by rw [HALL.out, allCons_none L k c HC.out (by rw [HONE.out, if_pos hwrong])]; rfl)
          have h15b : (id != 15) = true := by rw [bne_iff_ne]; exact HWW.out hwrong
          go_upto_region 35 with fail
          refine wp_region_any (by kernel_rfl) ?_
          refine AnyN.plain (S := fun _ => True) (need := fun _ => false) _ _ _ _ ?_
          change AnyN _ _ _ _ _ _ _ _ _ (World.drew X)
          refine AnyN.take (i := 0) (x := .pointer (some ⟨w6.heap.size, 0, none⟩)) rfl (by kernel_rfl) (by kernel_rfl) (by kernel_rfl) rfl (fun _ _ _ h => h) (Or.inl ⟨by rfl, fun v => by go_simp⟩) ?_
          try simp only [List.getElem_toArray, List.getElem_cons_zero, Act.put, List.setIfInBounds_toArray, List.set_cons_zero, List.set_cons_succ]
          refine AnyN.take (i := 1) (x := .string (bs c)) rfl (by kernel_rfl) (by kernel_rfl) (by kernel_rfl) rfl (fun _ _ _ h => h) (Or.inl ⟨by rfl, fun v => by go_simp⟩) ?_
          try simp only [List.getElem_toArray, List.getElem_cons_zero, List.getElem_cons_succ, Act.put, List.setIfInBounds_toArray, List.set_cons_zero, List.set_cons_succ]
          refine AnyN.take (i := 2) (x := .int .i64 st) rfl (by kernel_rfl) (by kernel_rfl) (by kernel_rfl) rfl (fun _ _ _ h => h) (Or.inl ⟨by rfl, fun v => by go_simp⟩) ?_
          try simp only [List.getElem_toArray, List.getElem_cons_zero, List.getElem_cons_succ, Act.put, List.setIfInBounds_toArray, List.set_cons_zero, List.set_cons_succ]
          refine AnyN.take (i := 3) (x := .int .i64 ((st : Int) + 1)) rfl (by kernel_rfl) (by kernel_rfl) (by kernel_rfl) rfl (fun _ _ _ h => h) (Or.inl ⟨by rfl, fun v => by go_simp⟩) ?_
          try simp only [List.getElem_toArray, List.getElem_cons_zero, List.getElem_cons_succ, Act.put, List.setIfInBounds_toArray, List.set_cons_zero, List.set_cons_succ]
          refine AnyN.take (i := 4) (x := .int .i64 en) rfl (by kernel_rfl) (by kernel_rfl) (by kernel_rfl) rfl (fun _ _ _ h => h) (Or.inl ⟨by rfl, fun v => by go_simp⟩) ?_
          try simp only [List.getElem_toArray, List.getElem_cons_zero, List.getElem_cons_succ, Act.put, List.setIfInBounds_toArray, List.set_cons_zero, List.set_cons_succ]
          refine AnyN.all (rs := [5, 6]) (by kernel_rfl) (by simp) (two_of ?_ ?_)
          · skip
            refine op_via rfl rfl (fun K hK => ?_)
            try simp only [List.getElem_toArray, List.getElem_cons_zero, List.getElem_cons_succ]
            obtain ⟨bb, qq, hdie⟩ := slice_low Tryz.prog (World.drew X) 9 (bs c) .i64 .i64 ((st : Int) + 1) en under9 (by rw [bs_size]; omega) (.inr (by omega))
            go_simp
            have hbb := hbx
            have hfin : ∀ q, PartEndD s P stars pluses sv pv R w (.panicked [{ v := boundsValue Tryz.prog ((st : Int) + 1) en bb 3, recovered := false }]) (World.drewN X q) := fun q => by
              rw [HRN.out]
              have h9 := HW3.out.trans ((HB6.out.trans (hbb.mono hz6)).mono hbase)
              exact ⟨⟨_, _, rfl⟩, grown_of ⟨h9.os, h9.tape, h9.output, h9.size, h9.block⟩⟩
            go_wp2_with fail
            exact ⟨rfl, hfin _⟩
          · skip
            refine op_via rfl rfl (fun K hK => ?_)
            try simp only [List.getElem_toArray, List.getElem_cons_zero, List.getElem_cons_succ]
            go_simp
            refine (chars80 _).mono ?_
            rintro e w7 ⟨g7, cap7, rfl, hc7, _, hg7, hb7⟩
            refine hK _ _ ⟨fun h => absurd h (by decide), ?_⟩
            clear hK K
            try simp only [List.getElem_toArray, List.getElem_cons_zero, List.getElem_cons_succ, Act.put, List.setIfInBounds_toArray, List.set_cons_zero, List.set_cons_succ]
            have hcv7 : (convert 23 9 (.slice (some ⟨g7, 0, none⟩) 1 cap7)).run Tryz.prog w7 = .ok (.string (bs [44])) w7 := conv_back cap7 hc7
            refine AnyN.all (rs := [5, 7]) (by kernel_rfl) (by simp) (two_of ?_ ?_)
            · skip
              refine op_via rfl rfl (fun K hK => ?_)
              try simp only [List.getElem_toArray, List.getElem_cons_zero, List.getElem_cons_succ]
              obtain ⟨bb, qq, hdie⟩ := slice_low Tryz.prog (w7) 9 (bs c) .i64 .i64 ((st : Int) + 1) en under9 (by rw [bs_size]; omega) (.inr (by omega))
              go_simp
              have hbb := (hbx.trans ((show Below X.heap.size X w7 from undrew hb7).mono hbx.size))
              have hfin : ∀ q, PartEndD s P stars pluses sv pv R w (.panicked [{ v := boundsValue Tryz.prog ((st : Int) + 1) en bb 3, recovered := false }]) (World.drewN w7 q) := fun q => by
                rw [HRN.out]
                have h9 := HW3.out.trans ((HB6.out.trans (hbb.mono hz6)).mono hbase)
                exact ⟨⟨_, _, rfl⟩, grown_of ⟨h9.os, h9.tape, h9.output, h9.size, h9.block⟩⟩
              go_wp2_with fail
              exact ⟨rfl, hfin _⟩
            · skip
              refine op_via rfl rfl (fun K hK => ?_)
              try simp only [List.getElem_toArray, List.getElem_cons_zero, List.getElem_cons_succ]
              go_simp
              refine hK _ _ ⟨fun h => absurd h (by decide), ?_⟩
              clear hK K
              try simp only [List.getElem_toArray, List.getElem_cons_zero, List.getElem_cons_succ, Act.put, List.setIfInBounds_toArray, List.set_cons_zero, List.set_cons_succ]
              refine AnyN.all (rs := [5]) (by kernel_rfl) (by simp) (one_of ?_)
              refine op_via rfl rfl (fun K hK => ?_)
              try simp only [List.getElem_toArray, List.getElem_cons_zero, List.getElem_cons_succ]
              obtain ⟨bb, qq, hdie⟩ := slice_low Tryz.prog (w7) 9 (bs c) .i64 .i64 ((st : Int) + 1) en under9 (by rw [bs_size]; omega) (.inr (by omega))
              go_simp
              have hbb := (hbx.trans ((show Below X.heap.size X w7 from undrew hb7).mono hbx.size))
              have hfin : ∀ q, PartEndD s P stars pluses sv pv R w (.panicked [{ v := boundsValue Tryz.prog ((st : Int) + 1) en bb 3, recovered := false }]) (World.drewN w7 q) := fun q => by
                rw [HRN.out]
                have h9 := HW3.out.trans ((HB6.out.trans (hbb.mono hz6)).mono hbase)
                exact ⟨⟨_, _, rfl⟩, grown_of ⟨h9.os, h9.tape, h9.output, h9.size, h9.block⟩⟩
              go_wp2_with fail
              exact ⟨rfl, hfin _⟩
        have i1 : (st : Int) + 1 ≤ (en : Int) := by omega
        obtain ⟨con, hcon, hc15, hcn15⟩ : ∃ con, oneCon c = some con ∧ (id = 15 → con = ⟨15, []⟩) ∧ (id ≠ 15 → con = ⟨id, if D.length = 1 ∨ D.length = 2 then D.map unesc else D⟩) := by
          rw [HONE.out, if_neg hwrong]
          by_cases h15 : id = 15
          · exact ⟨⟨15, []⟩, by rw [if_pos h15], fun _ => rfl, fun h => absurd h15 h⟩
          · exact ⟨_, by rw [if_neg h15], fun h => absurd h h15, fun _ => rfl⟩
        have HCON := Lib.hid hcon
        have H15 := Lib.hid hc15
        have HN15 := Lib.hid hcn15
        have HXO := Lib.hid hxo
        have HBX := Lib.hid hbx
        clear hcon hc15 hcn15 hwrong HONE HWW
        go_cut [21, 129] from 130 to 188 (fun b _ wx => b = .pointer (some ⟨w6.heap.size, 0, none⟩) ∧ (∃ dv, wx.heap[w6.heap.size]? = some (.cells #[.int .i16 con.id, dv] 66 (0, 0)) ∧ wx.ownsRow w3.heap.size 9 1 dv con.data.length (svals con.data)) ∧ Below w6.heap.size w6 wx)
        case first =>
          by_cases h15 : id = 15
          · have HE15 := Lib.hid (H15.out h15)
            have h15b : (id != 15) = false := by rw [h15]; rfl
            have HI15 := Lib.hid h15
            clear h15 hxo hbx
            go_wp2
            go_meet
            case rel =>
              rw [HE15.out]
              exact ⟨rfl, ⟨.slice none 0 0, by rw [HXO.out, HI15.out], World.ownsRow_nil _ _ _ _⟩, HBX.out⟩
          · have HE15 := Lib.hid (HN15.out h15)
            have h15b : (id != 15) = true := by rw [bne_iff_ne]; exact h15
            clear h15
            have hDp : 0 < D.length := by rw [HDD.out]; exact List.length_pos_iff.2 (splitGo_ne _ _ _)
            have HDL := Lib.hid (show ∀ d ∈ D, d.length ≤ 1000000000 from fun d hd => by rw [HDD.out] at hd; have := splitNE_mem hd; rw [List.length_take, List.length_drop] at this; omega)
            obtain ⟨nd, hnd⟩ : ∃ nd, nd = D.length := ⟨_, rfl⟩
            have HND := Lib.hid hnd
            rw [← hnd] at hDp
            clear hnd
            go_upto_region 35 with fail
            go_region_with (first
              | (go_at_call 80; refine (chars80 _).mono ?_; rintro e w7 ⟨g7, cap7, rfl, hc7, _, hg7, hb7⟩; have hcv7 : (convert 23 9 (.slice (some ⟨g7, 0, none⟩) 1 cap7)).run Tryz.prog w7 = .ok (.string (bs [44])) w7 := conv_back cap7 hc7)
              | (go_at_call 75; refine (split_any _ 44 _ (by simp; omega)).mono ?_; rintro e w9 ⟨v9, rfl, hown9, hb9⟩; rw [HX1.out, ← HDD.out, ← HND.out] at hown9; have hx9 := (hb9.block w6.heap.size (by have := hb7.size; simp at this; omega)).trans ((hb7.block w6.heap.size (by simp; omega)).trans HXO.out); have k90 := obj_cell (i := 0) hx9 rfl; have k91 := obj_cell (i := 1) hx9 rfl; have f91 := obj_free (i := 1) hx9; obtain ⟨g9, cap9, cur9, rfl, hg9a, hobj9, hg9c, hg9d, hg9e, hg9f⟩ := own_obj hown9 hDp))
            have hz7 : w6.heap.size + 1 ≤ w7.heap.size := by have := hb7.size; simp at this; omega
            obtain ⟨w10, hw10⟩ : ∃ w10, w10 = w9.setCell ⟨w6.heap.size, 1, none⟩ (.slice (some ⟨g9, 0, none⟩) nd cap9) := ⟨_, rfl⟩
            rw [← hw10]
            have hx10 : w10.heap[w6.heap.size]? = some (.cells #[.int .i16 id, .slice (some ⟨g9, 0, none⟩) nd cap9] 66 (0, 0)) := by rw [hw10]; exact obj_set (i := 1) _ hx9
            have ho10 : w10.heap[g9]? = some (.cells cur9 9 (0, 0)) := by rw [hw10, Below.heap_setCell _ ⟨w6.heap.size, 1, none⟩ _ _ (by show g9 ≠ w6.heap.size; omega)]; exact hobj9
            have hbig9 : Below w6.heap.size w6 w9 := HBX.out.trans (((show Below X.heap.size X w7 from undrew hb7).mono (by omega)).trans (hb9.mono (by omega)))
            have hbig10 : Below w6.heap.size w6 w10 := by rw [hw10]; exact hbig9.setCell (p := ⟨w6.heap.size, 1, none⟩) (Nat.le_refl _) _
            have HBIG := Lib.hid hbig10
            have HX10 := Lib.hid hx10
            have HO10 := Lib.hid ho10
            have k100 := obj_cell (i := 0) hx10 rfl
            have k101 := obj_cell (i := 1) hx10 rfl
            have HCUR := Lib.hid hg9f
            have hKg : w6.heap.size ≠ g9 := by omega
            have hKg2 : w6.heap.size ≤ g9 := by omega
            have hBg : w3.heap.size ≤ g9 := by omega
            clear hw10 hbig9 hbig10 hcv7 hc7 hb7 hb9 hown9 hx9 hobj9 k90 k91 f91 hxo hbx hxz hg9f hx10 ho10
            rcases hDc : D with _ | ⟨d, _ | ⟨d', _ | ⟨d'', r⟩⟩⟩
            · exfalso; have := HND.out; rw [hDc] at this; simp at this; omega
            · obtain rfl : nd = 1 := by rw [HND.out, hDc]; rfl
              have hc9 : cur9[0]? = some (.string (bs d)) := cur_at (l := D) HCUR.out (by rw [hDc]; simp) 0 (by rw [hDc]; rfl)
              have hdl : d.length ≤ 1000000000 := HDL.out d (by rw [hDc]; simp)
              have HE := Lib.hid (show con = ⟨id, [unesc d]⟩ by rw [HE15.out, hDc]; simp)
              have r100 := obj_cell (i := 0) HO10.out hc9
              clear hDc
              go_upto_region 37 with fail
              go_region_with (go_at_call 51; refine (unesc_any (bs d) _ (by rw [bs_size]; omega)).mono ?_; rintro e w11 ⟨rfl, hb11⟩; rw [bs_data]; have hx11 := (hb11.block w6.heap.size (by show w6.heap.size < w10.heap.size; exact (Array.getElem?_eq_some_iff.1 HX10.out).1)).trans HX10.out; have ho11 := (hb11.block g9 (by show g9 < w10.heap.size; exact (Array.getElem?_eq_some_iff.1 HO10.out).1)).trans HO10.out; have k110 := obj_cell (i := 0) hx11 rfl; have k111 := obj_cell (i := 1) hx11 rfl; have r110 := obj_cell (i := 0) ho11 (by first | exact hc9 | exact (by rw [Array.getElem?_setIfInBounds_ne (by decide)]; exact hc9')); have fr11 := obj_free (i := 0) ho11)
              all_goals
                have hb11' : Below w10.heap.size w10 w11 := undrew hb11
                have HX11 := Lib.hid hx11
                have HO11 := Lib.hid ho11
                have HB11 := Lib.hid hb11'
                clear hx11 ho11 hb11 hb11' k110 k111 r110 fr11
              all_goals
                go_wp2_with fail
                go_meet
                case rel =>
                  rw [HE.out]
                  refine ⟨rfl, ⟨_, (Below.heap_setCell _ ⟨g9, 0, none⟩ _ _ hKg).trans HX11.out, ⟨rfl, .inr ⟨g9, cap9, cur9.setIfInBounds 0 (.string (bs (unesc d))), rfl, hBg, obj_set (i := 0) _ HO11.out, hg9c, hg9d, by rw [Array.size_setIfInBounds]; exact hg9e, set_first hg9e hg9c⟩⟩⟩, (HBIG.out.trans (HB11.out.mono HBIG.out.size)).setCell (p := ⟨g9, 0, none⟩) hKg2 _⟩
            · obtain rfl : nd = 2 := by rw [HND.out, hDc]; rfl
              have hc9 : cur9[0]? = some (.string (bs d)) := cur_at (l := D) HCUR.out (by rw [hDc]; simp) 0 (by rw [hDc]; rfl)
              have hc9' : cur9[1]? = some (.string (bs d')) := cur_at (l := D) HCUR.out (by rw [hDc]; simp) 1 (by rw [hDc]; rfl)
              have hdl : d.length ≤ 1000000000 := HDL.out d (by rw [hDc]; simp)
              have hdl' : d'.length ≤ 1000000000 := HDL.out d' (by rw [hDc]; simp)
              have HE := Lib.hid (show con = ⟨id, [unesc d, unesc d']⟩ by rw [HE15.out, hDc]; simp)
              have r100 := obj_cell (i := 0) HO10.out hc9
              clear hDc
              go_upto_region 39 with fail
              go_cut [] from 165 to 176 (fun wx => wx.heap[w6.heap.size]? = some (.cells #[.int .i16 id, .slice (some ⟨g9, 0, none⟩) 2 cap9] 66 (0, 0)) ∧ wx.heap[g9]? = some (.cells (cur9.setIfInBounds 0 (.string (bs (unesc d)))) 9 (0, 0)) ∧ Below w6.heap.size w6 wx)
              case first =>
                go_region_with (go_at_call 51; refine (unesc_any (bs d) _ (by rw [bs_size]; omega)).mono ?_; rintro e w11 ⟨rfl, hb11⟩; rw [bs_data]; have hx11 := (hb11.block w6.heap.size (by show w6.heap.size < w10.heap.size; exact (Array.getElem?_eq_some_iff.1 HX10.out).1)).trans HX10.out; have ho11 := (hb11.block g9 (by show g9 < w10.heap.size; exact (Array.getElem?_eq_some_iff.1 HO10.out).1)).trans HO10.out; have k110 := obj_cell (i := 0) hx11 rfl; have k111 := obj_cell (i := 1) hx11 rfl; have r110 := obj_cell (i := 0) ho11 (by first | exact hc9 | exact (by rw [Array.getElem?_setIfInBounds_ne (by decide)]; exact hc9')); have fr11 := obj_free (i := 0) ho11)
                all_goals
                  have hb11' : Below w10.heap.size w10 w11 := undrew hb11
                  have HX11 := Lib.hid hx11
                  have HO11 := Lib.hid ho11
                  have HB11 := Lib.hid hb11'
                  clear hx11 ho11 hb11 hb11' k110 k111 r110 fr11
                all_goals
                  go_wp2_with fail
                  go_meet
                  exact ⟨(Below.heap_setCell _ ⟨g9, 0, none⟩ _ _ hKg).trans HX11.out, obj_set (i := 0) _ HO11.out, (HBIG.out.trans (HB11.out.mono HBIG.out.size)).setCell (p := ⟨g9, 0, none⟩) hKg2 _⟩
              case rest =>
              obtain ⟨hx12, ho12, hb12⟩ := hcut
              have HX12 := Lib.hid hx12
              have HO12 := Lib.hid ho12
              have HB12 := Lib.hid hb12
              have k120 := obj_cell (i := 0) hx12 rfl
              have k121 := obj_cell (i := 1) hx12 rfl
              have r121 := obj_cell (i := 1) ho12 (show (cur9.setIfInBounds 0 (.string (bs (unesc d))))[1]? = some (.string (bs d')) by rw [Array.getElem?_setIfInBounds_ne (by decide)]; exact hc9')
              clear hx12 ho12 hb12 k100 k101 r100
              go_upto_region 40 with fail
              go_region_with (go_at_call 51; refine (unesc_any (bs d') _ (by rw [bs_size]; omega)).mono ?_; rintro e w13 ⟨rfl, hb13⟩; rw [bs_data]; have hx13 := (hb13.block w6.heap.size (by show w6.heap.size < wc.heap.size; exact (Array.getElem?_eq_some_iff.1 HX12.out).1)).trans HX12.out; have ho13 := (hb13.block g9 (by show g9 < wc.heap.size; exact (Array.getElem?_eq_some_iff.1 HO12.out).1)).trans HO12.out; have k130 := obj_cell (i := 0) hx13 rfl; have k131 := obj_cell (i := 1) hx13 rfl; have r130 := obj_cell (i := 1) ho13 (by first | exact hc9 | exact (by rw [Array.getElem?_setIfInBounds_ne (by decide)]; exact hc9')); have fr13 := obj_free (i := 1) ho13)
              all_goals
                have hb13' : Below wc.heap.size wc w13 := undrew hb13
                have HX13 := Lib.hid hx13
                have HO13 := Lib.hid ho13
                have HB13 := Lib.hid hb13'
                clear hx13 ho13 hb13 hb13' k130 k131 r130 fr13
              all_goals
                go_wp2_with fail
                go_meet
                case rel =>
                  rw [HE.out]
                  refine ⟨rfl, ⟨_, (Below.heap_setCell _ ⟨g9, 1, none⟩ _ _ hKg).trans HX13.out, ⟨rfl, .inr ⟨g9, cap9, (cur9.setIfInBounds 0 (.string (bs (unesc d)))).setIfInBounds 1 (.string (bs (unesc d'))), rfl, hBg, obj_set (i := 1) _ HO13.out, hg9c, hg9d, by rw [Array.size_setIfInBounds, Array.size_setIfInBounds]; exact hg9e, set_two hg9e hg9c⟩⟩⟩, (HB12.out.trans (HB13.out.mono HB12.out.size)).setCell (p := ⟨g9, 1, none⟩) hKg2 _⟩
            · have hn3 : nd = r.length + 3 := by rw [HND.out, hDc]; simp
              have hn31 : ((nd : Int) == 1) = false := by rw [beq_eq_false_iff_ne]; omega
              have hn32 : ((nd : Int) == 2) = false := by rw [beq_eq_false_iff_ne]; omega
              have HE := Lib.hid (show con = ⟨id, D⟩ by rw [HE15.out, if_neg (by rw [← HND.out]; omega)])
              clear hDc hn3
              go_wp2
              go_meet
              case rel =>
                rw [HE.out]
                exact ⟨rfl, ⟨_, HX10.out, ⟨by simp [svals], .inr ⟨g9, cap9, cur9, by rw [← HND.out], hBg, HO10.out, by rw [← HND.out]; exact hg9c, hg9d, hg9e, by rw [← HND.out]; exact HCUR.out⟩⟩⟩, HBIG.out⟩
        case rest =>
        obtain ⟨rfl, ⟨dv, hbox, hdrow⟩, hbig⟩ := hcut
        have HBOX := Lib.hid hbox
        have HROW := Lib.hid hdrow
        have HBG := Lib.hid hbig
        have HR7 := Lib.hid (HR6.out.below hbig)
        clear hbox hdrow hbig hxo hbx hxz
        go_wp2_with (at_builtin; refine wpList_append_own _ rfl (.tmp 189) (.tmp 191) 97 rfl w3.heap.size 84 i84 (.pointer none) 1 8 Tryz.underlying97 hi84 hz84 hz841 hz842 rfl (by decide) _ _ _ (by rfl) (HR7.out.row.alloc _) ⟨wc.heap.size, 0, none⟩ 1 1 (ptrs [w6.heap.size]) (by rfl) rfl (by intro j y hy; rw [add_cell, Nat.zero_add]; simp [cell_alloc, objCell]; simpa [ptrs] using hy) (ptrs_one1 _) (by simp [maxLen]; omega) (by omega) (by simp; have := HBG.out.size; omega) ?_; intro v' w8 hown' hgrow hnil')
        have hb7 : Below w6.heap.size w6 (wc.alloc (.cells #[.pointer (some ⟨w6.heap.size, 0, none⟩)] 84)) := HBG.out.alloc HBG.out.size _
        have HCL8 := Lib.hid (HR6.out.push (con := con) (d := dv) hb7 HC.out HCON.out (K := w6.heap.size) (by omega) ((Below.heap_alloc wc _ _ (lt_of_obj HBOX.out)).trans HBOX.out) (HROW.out.alloc _) hown' hgrow)
        have HBW8 := Lib.hid ((HB6.out.trans (hb7.mono hz6)).grown hgrow (by have := hb7.size; omega) (fun k' h => ((HR6.out.row.lt k' h).1)))
        clear hown' hgrow hnil' hb7
        go_roundw
        case rel => exact ⟨k + 1, _, _, by omega, by go_num, HCL8.out, HBW8.out⟩
        case measure => simp [intOf]; omega
    · obtain rfl : k = n := by omega
      go_wp2_with fail
      have hk0 : 0 < ks.length := by have := HR.out.length (by have := HNL.out; omega); omega
      have HRES := Lib.hid (show R = some (partOf s.data.toList stars pluses (unesc (trimmed (s.data.toList.take a))) cons) by
        have h1 := HR.out.done
        rw [HNL.out, List.take_length] at h1
        rw [HALL.out, h1, Option.map_some])
      have HBw := Lib.hid (HW3.out.trans (HBR.out.mono hbase))
      have hexa := Lib.hid (take_ext s a)
      have e7 : (0 : Int) ≤ (a : Int) := by omega
      have e8 : a ≤ s.size := by omega
      have e9 : (a : Int) ≤ (s.size : Int) := by omega
      have hwf : wild = false := by
        cases hw : wild with
        | false => rfl
        | true => exact absurd (by rw [hhd.out]; exact congrArg some (u8_yes (HWI.out.trans hw) 42 rfl)) HHEAD.out.1
      have hpf : plus = false := by
        cases hp : plus with
        | false => rfl
        | true => exact absurd (by rw [hhd.out]; exact congrArg some (u8_yes (HPI.out.trans hp) 43 rfl)) HHEAD.out.2
      clear HWI HPI
      subst hwf
      subst hpf
      have htl : (trimmed (s.data.toList.take a)).length ≤ 1000000000 := by
        have h1 := trimmed_le (s.data.toList.take a)
        rw [List.length_take, HL.out] at h1
        omega
      have hq63 := Lib.hid (show (((s[e]'hle).toNat : Int) == 63) = decide (s.data.toList[paramEnd s.data.toList]? = some 63) by
        rw [← HE.out, byte_at s e hle, u8_beq _ 63 63 rfl, Bool.eq_iff_iff]; simp)
      go_upto_region 45 with (first
        | (go_at_call 74; refine (trimmed_any _ _ (by simp; omega)).mono ?_; rintro e w8 ⟨rfl, rfl⟩; rw [hexa.out])
        | (go_at_call 51; refine (unesc_any _ _ (by rw [bs_size]; omega)).mono ?_; rintro e w9 ⟨rfl, hb9⟩; rw [bs_data]))
      obtain ⟨nm2, hnm2⟩ : ∃ nm2, nm2 = unesc (trimmed (s.data.toList.take a)) := ⟨_, rfl⟩
      rw [← hnm2]
      have HNM2 := Lib.hid hnm2
      clear hnm2
      have HB9 := Lib.hid (HBw.out.trans (hb9.mono HBw.out.size))
      have HCL9 := Lib.hid (HR.out.below hb9)
      have hpo := (HB9.out.block P (lt_of_obj HP.out)).trans HP.out
      have HPO := Lib.hid hpo
      clear hb9 hpo
      go_wp2_with fail
      have HH := Lib.hid (po_none (p := s.data.toList) (st := stars) (pl := pluses) (nm := nm2) (cons := cons) HHEAD.out.1 HHEAD.out.2)
      go_ret2
      rw [HRES.out, ← HNM2.out, HH.out, ← HE.out]
      have hq := hq63.out
      rw [← HE.out] at hq
      rw [hq]
      refine cast_part (s := s) (stars := stars) (pluses := pluses) ?_ (fin_cons (s := s) (stars := stars) (pluses := pluses) (grown_of HB9.out) HPO.out hbase HCL9.out)
      rw [← take_bs]
      exact ⟨rfl, rfl⟩

theorem part_any (s : ByteArray) (B P stars pluses : Nat) (sv pv : Value) (w : World) (hs : s.size ≤ 1000000000) (h0 : 0 < s.size) (hst : stars ≤ 1000000000) (hpl : pluses ≤ 1000000000)
    (hP : w.heap[P]? = some (.cells #[sv, pv, .int .i64 stars, .int .i64 pluses] 79 (0, 0))) (hPB : B ≤ P) (hBw : B ≤ w.heap.size) (htab : Lib.TabBelow Tryz.prog B w "internal/strconv.uint64pow10" .u64 Lib.pow10Tab) :
    Calls Tryz.prog 53 #[.pointer (some ⟨P, 0, none⟩), .string s] w (PartEndD s P stars pluses sv pv (paramPart s.data.toList stars pluses) w) := by
  by_cases hno : stOf s.data.toList = none ∨ enOf s.data.toList = none
  · have hp : paramPart s.data.toList stars pluses = some (plainPart s.data.toList stars pluses) := by
      unfold paramPart plainPart partOf
      unfold stOf enOf at hno
      rcases hno with h | h
      · simp only [h]
      · simp only [h]
        generalize (if 0 < paramEnd s.data.toList then nne (s.data.toList.take (paramEnd s.data.toList)) [60] else none) = o
        cases o <;> rfl
    rw [hp]
    exact part_none s B P stars pluses sv pv w hs h0 hst hpl hP hno hPB hBw htab
  · obtain ⟨a, ha⟩ : ∃ a, stOf s.data.toList = some a := by
      cases h : stOf s.data.toList with
      | none => exact absurd (.inl h) hno
      | some a => exact ⟨a, rfl⟩
    obtain ⟨z, hz⟩ : ∃ z, enOf s.data.toList = some z := by
      cases h : enOf s.data.toList with
      | none => exact absurd (.inr h) hno
      | some a => exact ⟨a, rfl⟩
    exact part_cons s P stars pluses sv pv w hs h0 hP a z ha hz
end Go.Proofs.YtiebedcldbmlhaaGreatDoor
