/-
  Segments, of any pattern without constraints that does not panic: its parts as rows of values, and the names. Conditions: a pattern of at most a million bytes; the table that Itoa reads.
-/
import Derived.Test.YtiebedcldbmlhaaGreatDoorAT
namespace Go.Proofs.YtiebedcldbmlhaaGreatDoor
open Go.RowKit
set_option linter.unusedVariables false

theorem info49 : (Tryz.prog.info? 49).map (fun i => (i.zero.map (fun z => z.cells.size), i.size, i.bytes)) = some (some 11, 11, 96) := by kernel_rfl
/-- The recover that has nothing to catch. -/
theorem catch_idle27 (a b c : Addr) (w : World) :
    CallsD Tryz.prog 35 #[.pointer (some a), .pointer (some b), .pointer (some c)] .returning w fun e u' w' => e = .returned (.tuple #[]) ∧ u' = .returning ∧ w' = w := by
  refine callsD_of_wpS Tryz.func35 rfl fun c₀ cs hu => ?_
  apply wpS_seq
  apply wpS_region
  simp [wpOpsS, go_sem, recoverD, hu, Tryz.ntmps35, Exit.thenS]
  refine wpS_cond (t := false) (by simp [Act.eval, Array.replicate]) ?_
  simp only [Bool.false_eq_true, if_false]
  refine wpS_of_wp (wp_skip ?_)
  cases c₀
  simp_all [bodyPostS, results, Tryz.results35]
/-- A row's cells, one by one. -/
theorem own_cell11 {w : World} {base : Nat} {e : TypeId} {v : Value} {n : Nat} {M : List Seg} (h : w.ownsRow base e 11 v n (zrow M)) (hn : 0 < n) : ∃ g cap, v = .slice (some ⟨g, 0, none⟩) n cap ∧ base ≤ g ∧ g < w.heap.size ∧
    ∀ (i : Nat) (x : Seg), M[i]? = some x → ∀ j u, (zcells x)[j]? = some u → w.cell? ⟨g, i * 11 + j, none⟩ = some u := by
  have hc := fun g hg => h.cells (g := g) hg
  obtain ⟨_, ⟨_, h0⟩ | ⟨g, cap, cur, rfl, hb, hh, _⟩⟩ := h
  · omega
  · refine ⟨g, cap, rfl, hb, (Array.getElem?_eq_some_iff.1 hh).1, fun i x hx j u hu => ?_⟩
    have := hc g rfl _ u (zrow_at M i x hx j u hu)
    rw [add_cell, Nat.zero_add] at this
    exact this
/-- What a loop that makes a row of its own and one variable leaves of the rest. -/
theorem own_grown {w w2 : World} {base g : Nat} {e : TypeId} {sz n : Nat} {v : Value} {xs : List Value} (h : w.ownsRow base e sz v n xs) (hg : w.grownBy w2 (some g)) (hb : g < base) : w2.ownsRow base e sz v n xs :=
  h.kept hg (own_ne fun k hk => by cases hk; exact fun e => by have := (h.lt _ e).1; omega)
theorem own_zero {w : World} {base : Nat} {e : TypeId} {sz : Nat} {v : Value} {n : Nat} {xs : List Value} (h : w.ownsRow base e sz v n xs) : ∃ ao cap, v = .slice ao n cap := own_form h

/-- The three results, stored. -/
def stored3 (w2 : World) (a b c : Nat) (x y z : Value) : World := (((w2.setCell ⟨a, 0, none⟩ x).setCell ⟨b, 0, none⟩ y).setCell ⟨c, 0, none⟩ z).drew
theorem stored3_a {w2 : World} {a b c : Nat} {x y z o : Value} {t : TypeId} (h1 : a ≠ b) (h2 : a ≠ c) (q : w2.heap[a]? = some (.cells #[o] t (0, 0))) : (stored3 w2 a b c x y z).heap[a]? = some (.cells #[x] t (0, 0)) := by
  have k1 : (w2.setCell ⟨a, 0, none⟩ x).heap[a]? = some (.cells #[x] t (0, 0)) := obj_set (i := 0) x q
  have k2 := (Below.heap_setCell (w2.setCell ⟨a, 0, none⟩ x) ⟨b, 0, none⟩ y a h1).trans k1
  unfold stored3
  rw [drew_heap, Below.heap_setCell _ ⟨c, 0, none⟩ z a h2]
  exact k2
theorem stored3_b {w2 : World} {a b c : Nat} {x y z o : Value} {t : TypeId} (h1 : a ≠ b) (h3 : b ≠ c) (q : w2.heap[b]? = some (.cells #[o] t (0, 0))) : (stored3 w2 a b c x y z).heap[b]? = some (.cells #[y] t (0, 0)) := by
  have k1 := (Below.heap_setCell w2 ⟨a, 0, none⟩ x b (Ne.symm h1)).trans q
  have k2 : ((w2.setCell ⟨a, 0, none⟩ x).setCell ⟨b, 0, none⟩ y).heap[b]? = some (.cells #[y] t (0, 0)) := obj_set (i := 0) y k1
  unfold stored3
  rw [drew_heap, Below.heap_setCell _ ⟨c, 0, none⟩ z b h3]
  exact k2
theorem stored3_c {w2 : World} {a b c : Nat} {x y z o : Value} {t : TypeId} (h2 : a ≠ c) (h3 : b ≠ c) (q : w2.heap[c]? = some (.cells #[o] t (0, 0))) : (stored3 w2 a b c x y z).heap[c]? = some (.cells #[z] t (0, 0)) := by
  have k1 := (Below.heap_setCell w2 ⟨a, 0, none⟩ x c (Ne.symm h2)).trans q
  have k2 := (Below.heap_setCell (w2.setCell ⟨a, 0, none⟩ x) ⟨b, 0, none⟩ y c (Ne.symm h3)).trans k1
  unfold stored3
  rw [drew_heap]
  exact obj_set (i := 0) z k2
theorem stored3_keep {w2 : World} {a b c : Nat} {x y z : Value} (k : Nat) (h1 : k ≠ a) (h2 : k ≠ b) (h3 : k ≠ c) : (stored3 w2 a b c x y z).heap[k]? = w2.heap[k]? := by
  unfold stored3
  rw [drew_heap, Below.heap_setCell _ ⟨c, 0, none⟩ z k h3, Below.heap_setCell _ ⟨b, 0, none⟩ y k h2, Below.heap_setCell _ ⟨a, 0, none⟩ x k h1]
theorem stored3_below {w w2 : World} {a b c B : Nat} {x y z : Value} (h : Below B w w2) (h1 : B ≤ a) (h2 : B ≤ b) (h3 : B ≤ c) : Below B w (stored3 w2 a b c x y z) := by
  have hh := ((h.setCell (p := ⟨a, 0, none⟩) h1 x).setCell (p := ⟨b, 0, none⟩) h2 y).setCell (p := ⟨c, 0, none⟩) h3 z
  exact ⟨hh.os, hh.tape, hh.output, hh.size, hh.block⟩
theorem grown_step {W wr w5 w6 : World} {g : Nat} {row : Option Nat} (h : W.grownBy wr (some g)) (hb : Below wr.heap.size wr w5) (hg : w5.grownBy w6 row) (hrow : ∀ k, row = some k → W.heap.size ≤ k) (v : Value) : W.grownBy (w6.setCell ⟨g, 0, none⟩ v) (some g) := by
  refine ⟨hg.os.trans (hb.os.trans h.os), hg.tape.trans (hb.tape.trans h.tape), hg.output.trans (hb.output.trans h.output), ?_, fun k hk hne => ?_⟩
  · have h1 := h.size
    have h2 := hb.size
    have h3 := hg.size
    simp; omega
  · have h1 := h.size
    have h2 := hb.size
    rw [Below.heap_setCell w6 ⟨g, 0, none⟩ v k (fun e => hne (by rw [e]))]
    exact (hg.block k (by omega) (fun e => by have := hrow k e.symm; omega)).trans ((hb.block k (by omega)).trans (h.block k hk hne))

set_option maxHeartbeats 4000000 in
set_option maxRecDepth 100000 in
theorem segments_any (s : ByteArray) (w : World) (hE : EnvZ w) (hs : s.size ≤ 1000000) (h0 : 0 < s.size) (h60 : ∀ x ∈ s.data.toList, x ≠ 60) (M : List Seg) (N : List Bs) (hM : parse s.data.toList = some (M, N)) :
    Calls Tryz.prog 27 #[.string s] w fun e w' => ∃ v pv, e = .returned (.tuple #[v, pv, .bool true]) ∧ w'.ownsRow w.heap.size 49 11 v M.length (zrow M) ∧ w'.ownsRow w.heap.size 9 1 pv N.length (svals N) ∧ Below w.heap.size w w' := by
  have hmf : ∀ (fn : Fn) (first cap : Array Value) (w : World), (Instr.makeFunc fn first cap).run Tryz.prog w = .ok (.func fn first cap) w := fun _ _ _ _ => rfl
  obtain ⟨i49, z49, hi49, hz49, hzs49, hsz49, hby49⟩ := infos_parts info49
  have hML := (parse_good hM h60 (by rw [size_data]; exact hs)).2.2.2
  obtain ⟨W1, hW1⟩ : ∃ W1, W1 = (((w.alloc (Obj.cells #[Value.slice none 0 0] 44)).alloc (Obj.cells #[Value.slice none 0 0] 22)).alloc (Obj.cells #[Value.bool false] 4)) := ⟨_, rfl⟩
  have hbW : Below w.heap.size w W1 := by rw [hW1]; exact (((Below.refl _ _).alloc (Nat.le_refl _) _).alloc (by simp) _).alloc (by simp; omega) _
  have hsW : W1.heap.size = w.heap.size + 1 + 1 + 1 := by rw [hW1]; simp
  have s1 : (w.alloc (Obj.cells #[Value.slice none 0 0] 44)).heap.size = w.heap.size + 1 := by simp
  have s2 : ((w.alloc (Obj.cells #[Value.slice none 0 0] 44)).alloc (Obj.cells #[Value.slice none 0 0] 22)).heap.size = w.heap.size + 1 + 1 := by simp
  have k0 : W1.heap[w.heap.size]? = some (.cells #[.slice none 0 0] 44 (0, 0)) := by
    rw [hW1, Below.heap_alloc _ _ _ (by rw [s2]; omega), Below.heap_alloc _ _ _ (by rw [s1]; omega), heap_alloc_new]
  have k1 : W1.heap[w.heap.size + 1]? = some (.cells #[.slice none 0 0] 22 (0, 0)) := by
    rw [hW1, Below.heap_alloc _ _ _ (by rw [s2]; omega), ← s1, heap_alloc_new]
  have k2 : W1.heap[w.heap.size + 1 + 1]? = some (.cells #[.bool false] 4 (0, 0)) := by
    rw [hW1, ← s2, heap_alloc_new]
  clear s1 s2
  have hcall := zzparse_any s W1 (hE.below hbW) hs h0 h60 M N hM
  have HCALL := Lib.hid hcall
  have HBW := Lib.hid hbW
  have HSW := Lib.hid hsW
  have HW1 := Lib.hid hW1
  clear hcall hbW hsW hW1 hM h60 hE
  go_enter_defers Tryz.func27, Tryz.ntmps27
  go_wp2_with fail
  rw [← HW1.out]
  refine HCALL.out.mono ?_
  rintro e w2 ⟨v, pv, rfl, hv, hpv, hb2⟩
  obtain ⟨va, vcap, rfl⟩ := own_form hv
  obtain ⟨pa, pcap, rfl⟩ := own_form hpv
  have q0 := (hb2.block _ (by have := HSW.out; omega)).trans k0
  have q1 := (hb2.block _ (by have := HSW.out; omega)).trans k1
  have q2 := (hb2.block _ (by have := HSW.out; omega)).trans k2
  have hsz2 := hb2.size
  have hlt2 : w.heap.size + 1 + 1 < w2.heap.size := by have := HSW.out; omega
  have f1 := obj_free (i := 0) q1
  have c1 := obj_cell (i := 0) q1 rfl
  have HB2 := Lib.hid hb2
  have HV := Lib.hid hv
  have HPV := Lib.hid hpv
  have Q0 := Lib.hid q0
  have Q1 := Lib.hid q1
  have Q2 := Lib.hid q2
  obtain ⟨m, hm⟩ : ∃ m, m = M.length := ⟨_, rfl⟩
  have HM := Lib.hid hm
  rw [← hm] at hML HV ⊢
  clear hb2 hv hpv q0 q1 q2 k0 k1 k2 HCALL hsz2 hm
  go_wp2_with fail
  obtain ⟨W3, hW3⟩ : ∃ W3, W3 = w2.setCell ⟨w.heap.size + 1, 0, none⟩ (.slice pa N.length pcap) := ⟨_, rfl⟩
  rw [← hW3]
  have z3 : W3.heap.size = w2.heap.size := by rw [hW3]; simp
  have q0 : W3.heap[w.heap.size]? = some (.cells #[.slice none 0 0] 44 (0, 0)) := by rw [hW3, Below.heap_setCell _ ⟨w.heap.size + 1, 0, none⟩ _ _ (by simp)]; exact Q0.out
  have q1 : W3.heap[w.heap.size + 1]? = some (.cells #[.slice pa N.length pcap] 22 (0, 0)) := by rw [hW3]; exact obj_set (i := 0) _ Q1.out
  have q2 : W3.heap[w.heap.size + 1 + 1]? = some (.cells #[.bool false] 4 (0, 0)) := by rw [hW3, Below.heap_setCell _ ⟨w.heap.size + 1, 0, none⟩ _ _ (by simp)]; exact Q2.out
  have hv3 : W3.ownsRow W1.heap.size 72 11 (.slice va m vcap) m (zrow M) := own_keep HV.out fun k hk => by rw [hW3]; exact Below.heap_setCell _ ⟨w.heap.size + 1, 0, none⟩ _ _ (by have := (HV.out.lt k hk).1; have := HSW.out; show k ≠ w.heap.size + 1; omega)
  have hp3 : W3.ownsRow W1.heap.size 9 1 (.slice pa N.length pcap) N.length (svals N) := own_keep HPV.out fun k hk => by rw [hW3]; exact Below.heap_setCell _ ⟨w.heap.size + 1, 0, none⟩ _ _ (by have := (HPV.out.lt k hk).1; have := HSW.out; show k ≠ w.heap.size + 1; omega)
  have hb3 : Below w.heap.size w W3 := by rw [hW3]; exact (HBW.out.trans (HB2.out.mono HBW.out.size)).setCell (p := ⟨w.heap.size + 1, 0, none⟩) (by show w.heap.size ≤ w.heap.size + 1; omega) _
  have hl3 : w.heap.size + 1 + 1 < W3.heap.size := by rw [z3]; exact hlt2
  have HV3 := Lib.hid hv3
  have HP3 := Lib.hid hp3
  have HB3 := Lib.hid hb3
  have T0 := Lib.hid q0
  have T1 := Lib.hid q1
  have T2 := Lib.hid q2
  have HL3 := Lib.hid hl3
  clear hW3 z3 q0 q1 q2 hv3 hp3 hb3 HV HPV HB2 HBW Q0 Q1 Q2 f1 c1 HW1 hlt2
  go_loopw [19] (fun i wr => ∃ (k : Nat) (ov : Value), k ≤ m ∧ i = .int .i64 k ∧ wr.heap[w.heap.size]? = some (.cells #[ov] 44 (0, 0)) ∧ wr.ownsRow W3.heap.size 49 11 ov k (zrow (M.take k)) ∧ W3.grownBy wr (some w.heap.size)) (fun i _ => m - (intOf i).toNat)
  case atStart => exact ⟨0, _, Nat.zero_le _, rfl, T0.out, World.ownsRow_nil _ _ _ _, ⟨rfl, rfl, rfl, Nat.le_refl _, fun _ _ _ => rfl⟩⟩
  case round =>
    obtain ⟨k, ov, hk, rfl, hcell, hown, hgr⟩ := hrel
    by_cases hlt : k < m
    · obtain ⟨x, hx⟩ : ∃ x, M[k]? = some x := ⟨M[k]'(by have := HM.out; omega), List.getElem?_eq_getElem _⟩
      obtain ⟨gv, gcap, he, hgb, hgl, hcs⟩ := own_cell11 (own_grown HV3.out hgr (by have := HSW.out; omega)) (by omega)
      cases he
      have hcx := hcs k x hx
      obtain ⟨a0, e0⟩ : ∃ v, v = bs x.const := ⟨_, rfl⟩
      obtain ⟨a1, e1⟩ : ∃ v, v = bs x.name := ⟨_, rfl⟩
      obtain ⟨a2, e2⟩ : ∃ v, v = bs x.cmp := ⟨_, rfl⟩
      obtain ⟨b3, e3⟩ : ∃ v, v = x.isParam := ⟨_, rfl⟩
      obtain ⟨b4, e4⟩ : ∃ v, v = x.greedy := ⟨_, rfl⟩
      obtain ⟨b5, e5⟩ : ∃ v, v = x.optional := ⟨_, rfl⟩
      obtain ⟨b6, e6⟩ : ∃ v, v = x.optSlash := ⟨_, rfl⟩
      obtain ⟨b7, e7⟩ : ∃ v, v = x.last := ⟨_, rfl⟩
      obtain ⟨p8, e8⟩ : ∃ v, v = x.partCount := ⟨_, rfl⟩
      obtain ⟨p9, e9⟩ : ∃ v, v = x.length := ⟨_, rfl⟩
      have hz : zcells x = [Value.string a0, Value.string a1, Value.string a2, Value.bool b3, Value.bool b4, Value.bool b5, Value.bool b6, Value.bool b7, Value.int IntKind.i64 p8, Value.int IntKind.i64 p9, Value.slice none 0 0] := by rw [e0, e1, e2, e3, e4, e5, e6, e7, e8, e9]; rfl
      rw [hz] at hcx
      have d0 : wr.cell? ⟨gv, k * 11, none⟩ = _ := hcx 0 _ rfl
      have d1 := hcx 1 _ rfl
      have d2 := hcx 2 _ rfl
      have d3 := hcx 3 _ rfl
      have d4 := hcx 4 _ rfl
      have d5 := hcx 5 _ rfl
      have d6 := hcx 6 _ rfl
      have d7 := hcx 7 _ rfl
      have d8 := hcx 8 _ rfl
      have d9 := hcx 9 _ rfl
      have d10 := hcx 10 _ rfl
      have HZ := Lib.hid hz
      have HX := Lib.hid hx
      have HCELL := Lib.hid hcell
      have HO := Lib.hid hown
      have HGR := Lib.hid hgr
      clear e0 e1 e2 e3 e4 e5 e6 e7 e8 e9 hz hx hcell hown hgr hcx hcs
      go_upto_region 7 with fail
      obtain ⟨W5, hW5⟩ : ∃ W5, W5 = ((wr.alloc (Obj.cells #[Value.string a0, Value.string a1, Value.string a2, Value.bool b3, Value.bool b4, Value.bool b5, Value.bool b6, Value.bool b7, Value.int IntKind.i64 p8, Value.int IntKind.i64 p9, Value.slice none 0 0] 72)).alloc (Obj.cells #[Value.string a0, Value.string a1, Value.string a2, Value.bool b3, Value.bool b4, Value.bool b5, Value.bool b6, Value.bool b7, Value.int IntKind.i64 p8, Value.int IntKind.i64 p9, Value.slice none 0 0] 49)) := ⟨_, rfl⟩
      rw [← hW5]
      have s1 : (wr.alloc (Obj.cells #[Value.string a0, Value.string a1, Value.string a2, Value.bool b3, Value.bool b4, Value.bool b5, Value.bool b6, Value.bool b7, Value.int IntKind.i64 p8, Value.int IntKind.i64 p9, Value.slice none 0 0] 72)).heap.size = wr.heap.size + 1 := by simp
      have hb5 : Below wr.heap.size wr W5 := by rw [hW5]; exact ((Below.refl _ _).alloc (Nat.le_refl _) _).alloc (by simp) _
      have hz5 : W5.heap.size = wr.heap.size + 1 + 1 := by rw [hW5]; simp
      have h72 : W5.heap[wr.heap.size]? = some (.cells #[Value.string a0, Value.string a1, Value.string a2, Value.bool b3, Value.bool b4, Value.bool b5, Value.bool b6, Value.bool b7, Value.int IntKind.i64 p8, Value.int IntKind.i64 p9, Value.slice none 0 0] 72 (0, 0)) := by rw [hW5, Below.heap_alloc _ _ _ (by rw [s1]; omega), heap_alloc_new]
      have h49 : W5.heap[wr.heap.size + 1]? = some (.cells #[Value.string a0, Value.string a1, Value.string a2, Value.bool b3, Value.bool b4, Value.bool b5, Value.bool b6, Value.bool b7, Value.int IntKind.i64 p8, Value.int IntKind.i64 p9, Value.slice none 0 0] 49 (0, 0)) := by rw [hW5, ← s1, heap_alloc_new]
      have hwl : w.heap.size < wr.heap.size := by have := HGR.out.size; have := HL3.out; omega
      have hov := (hb5.block w.heap.size hwl).trans HCELL.out
      have n10 := obj_cell (i := 10) h72 rfl
      have m0 := obj_cell (i := 0) h49 rfl
      have m1 := obj_cell (i := 1) h49 rfl
      have m2 := obj_cell (i := 2) h49 rfl
      have m3 := obj_cell (i := 3) h49 rfl
      have m4 := obj_cell (i := 4) h49 rfl
      have m5 := obj_cell (i := 5) h49 rfl
      have m6 := obj_cell (i := 6) h49 rfl
      have m7 := obj_cell (i := 7) h49 rfl
      have m8 := obj_cell (i := 8) h49 rfl
      have m9 := obj_cell (i := 9) h49 rfl
      have m10 := obj_cell (i := 10) h49 rfl
      have co := obj_cell (i := 0) hov rfl
      have HB5 := Lib.hid hb5
      have HZ5 := Lib.hid hz5
      have HOV := Lib.hid hov
      have HWL := Lib.hid hwl
      have hone : ∀ u ∈ [Value.string a0, Value.string a1, Value.string a2, Value.bool b3, Value.bool b4, Value.bool b5, Value.bool b6, Value.bool b7, Value.int IntKind.i64 p8, Value.int IntKind.i64 p9, Value.slice none 0 0], u.oneCell' = true := by rw [← HZ.out]; exact zcells_one x
      have HONE := Lib.hid hone
      have HO5 := Lib.hid (own_below HO.out hb5)
      have hbase : W3.heap.size ≤ W5.heap.size := by have := HGR.out.size; have := hb5.size; omega
      clear s1 hb5 hz5 h72 h49 hwl hov hone hW5 d0 d1 d2 d3 d4 d5 d6 d7 d8 d9 d10
      go_wp2_with fail
      go_loopw [47] (fun i wx => i = .int .i64 0 ∧ W5 = wx) (fun _ _ => 0)
      case atStart => exact ⟨rfl, rfl⟩
      case round =>
        obtain ⟨rfl, rfl⟩ := hrel
        have hlts := fun k' h => (HO5.out.lt (k := k') h).1
        have HLT := Lib.hid hlts
        clear hlts
        go_wp2_with (at_builtin; refine wpList_append_own _ rfl (.tmp 65) (.tmp 67) 44 rfl W3.heap.size 49 i49 z49 11 96 Tryz.underlying44 hi49 hz49 hsz49 hby49 hzs49 (by decide) _ _ _ (by rfl) (HO5.out.alloc _) ⟨W5.heap.size, 0, none⟩ 1 1 [Value.string a0, Value.string a1, Value.string a2, Value.bool b3, Value.bool b4, Value.bool b5, Value.bool b6, Value.bool b7, Value.int IntKind.i64 p8, Value.int IntKind.i64 p9, Value.slice none 0 0] (by rfl) rfl (by intro j y hy; rw [add_cell, Nat.zero_add]; simpa [cell_alloc, objCell] using hy) HONE.out (by simp [maxLen]; omega) (by omega) (by simp; omega) ?_; intro v' w6 hown' hgrow hnil'; obtain ⟨oa, ocap, rfl⟩ := own_form hown'; have hb6 := (hgrow.block w.heap.size (by have := HZ5.out; have := HWL.out; simp; omega) (fun e => by have := HLT.out _ e.symm; have := HL3.out; omega)).trans ((Below.heap_alloc W5 _ w.heap.size (by have := HZ5.out; have := HWL.out; omega)).trans HOV.out); have c6 := obj_cell (i := 0) hb6 rfl; have f6 := obj_free (i := 0) hb6)
        have HOWN := Lib.hid hown'
        have HGROW := Lib.hid hgrow
        have HB6 := Lib.hid hb6
        clear hown' hgrow hb6 hnil'
        have hrow6 : (w6.setCell ⟨w.heap.size, 0, none⟩ (.slice oa (k + 1) ocap)).ownsRow W3.heap.size 49 11 (.slice oa (k + 1) ocap) (k + 1) (zrow (M.take (k + 1))) := by
          rw [zrow_take HX.out, HZ.out]
          exact own_keep HOWN.out fun j hj => Below.heap_setCell _ ⟨w.heap.size, 0, none⟩ _ _ (by have := (HOWN.out.lt j hj).1; have := HL3.out; show j ≠ w.heap.size; omega)
        exact ⟨⟨k + 1, .slice oa (k + 1) ocap, by omega, by go_num, obj_set (i := 0) _ HB6.out, hrow6, grown_step HGR.out (HB5.out.alloc (by have := HZ5.out; omega) _) HGROW.out (fun j hj => HLT.out j hj) _⟩, by simp [intOf]; omega⟩
    · obtain rfl : k = m := by omega
      obtain ⟨oa, ocap, rfl⟩ := own_form hown
      have ht1 := (hgr.block _ (by have := HL3.out; omega) (by simp)).trans T1.out
      have ht2 := (hgr.block _ (by have := HL3.out; omega) (by simp; omega)).trans T2.out
      have c0 := obj_cell (i := 0) hcell rfl
      have c1 := obj_cell (i := 0) ht1 rfl
      have c2 := obj_cell (i := 0) ht2 rfl
      have f0 := obj_free (i := 0) hcell
      have f1 := obj_free (i := 0) ht1
      have f2 := obj_free (i := 0) ht2
      have HCELL := Lib.hid hcell
      have HT1 := Lib.hid ht1
      have HT2 := Lib.hid ht2
      have HO := Lib.hid hown
      have HGR := Lib.hid hgr
      clear hcell ht1 ht2 hown hgr
      go_wp2_with fail
      go_region
      rw [show (((wr.setCell ⟨w.heap.size, 0, none⟩ (.slice oa k ocap)).setCell ⟨w.heap.size + 1, 0, none⟩ (.slice pa N.length pcap)).setCell ⟨w.heap.size + 1 + 1, 0, none⟩ (.bool true)).drew = stored3 wr w.heap.size (w.heap.size + 1) (w.heap.size + 1 + 1) (.slice oa k ocap) (.slice pa N.length pcap) (.bool true) from rfl]
      obtain ⟨X, hX⟩ : ∃ X, X = stored3 wr w.heap.size (w.heap.size + 1) (w.heap.size + 1 + 1) (.slice oa k ocap) (.slice pa N.length pcap) (.bool true) := ⟨_, rfl⟩
      rw [← hX]
      have HX := Lib.hid hX
      clear hX c0 c1 c2 f0 f1 f2
      go_wp2_with fail
      refine leaves_cons (f := 35) (args := #[.pointer (some ⟨w.heap.size, 0, none⟩), .pointer (some ⟨w.heap.size + 1, 0, none⟩), .pointer (some ⟨w.heap.size + 1 + 1, 0, none⟩)]) (by simp) (by simp [go_sem]) ?_
      refine (catch_idle27 _ _ _ _).mono ?_
      rintro e u' X ⟨rfl, rfl, rfl⟩
      have n1 : w.heap.size ≠ w.heap.size + 1 := by omega
      have n2 : w.heap.size ≠ w.heap.size + 1 + 1 := by omega
      have n3 : w.heap.size + 1 ≠ w.heap.size + 1 + 1 := by omega
      have hx0 : X.heap[w.heap.size]? = some (.cells #[.slice oa k ocap] 44 (0, 0)) := by rw [HX.out]; exact stored3_a n1 n2 HCELL.out
      have hx1 : X.heap[w.heap.size + 1]? = some (.cells #[.slice pa N.length pcap] 22 (0, 0)) := by rw [HX.out]; exact stored3_b n1 n3 HT1.out
      have hx2 : X.heap[w.heap.size + 1 + 1]? = some (.cells #[.bool true] 4 (0, 0)) := by rw [HX.out]; exact stored3_c n2 n3 HT2.out
      have x0 := obj_cell (i := 0) hx0 rfl
      have x1 := obj_cell (i := 0) hx1 rfl
      have x2 := obj_cell (i := 0) hx2 rfl
      have hkeep : ∀ j, w.heap.size + 1 + 1 < j → X.heap[j]? = wr.heap[j]? := fun j hj => by
        rw [HX.out]
        exact stored3_keep j (by omega) (by omega) (by omega)
      have hbr : Below w.heap.size w wr := ⟨HGR.out.os.trans HB3.out.os, HGR.out.tape.trans HB3.out.tape, HGR.out.output.trans HB3.out.output, Nat.le_trans HB3.out.size HGR.out.size, fun j hj => (HGR.out.block j (Nat.lt_of_lt_of_le hj HB3.out.size) (fun e => by cases e; omega)).trans (HB3.out.block j hj)⟩
      have hbX : Below w.heap.size w X := by
        rw [HX.out]
        exact stored3_below hbr (Nat.le_refl _) (by omega) (by omega)
      have hr1 : X.ownsRow w.heap.size 49 11 (.slice oa k ocap) M.length (zrow M) := by
        have h := HO.out
        rw [HM.out, List.take_length, ← HM.out] at h
        rw [← HM.out]
        exact own_base (own_keep h fun j hj => hkeep j (by have := (h.lt j hj).1; have := HL3.out; omega)) (by have := HL3.out; omega)
      have hr2 : X.ownsRow w.heap.size 9 1 (.slice pa N.length pcap) N.length (svals N) := by
        have h := own_grown HP3.out HGR.out (by have := HSW.out; omega)
        exact own_base (own_keep h fun j hj => hkeep j (by have := (h.lt j hj).1; have := HSW.out; omega)) (by have := HSW.out; omega)
      have HBX := Lib.hid hbX
      have HR1 := Lib.hid hr1
      have HR2 := Lib.hid hr2
      clear hkeep hbX hr1 hr2 hx0 hx1 hx2 n1 n2 n3 hbr
      obtain ⟨R, hRd⟩ : ∃ R : Ending → World → Prop, R = fun (e : Ending) (w' : World) => ∃ v pv, e = .returned (.tuple #[v, pv, .bool true]) ∧ w'.ownsRow w.heap.size 49 11 v M.length (zrow M) ∧ w'.ownsRow w.heap.size 9 1 pv N.length (svals N) ∧ Below w.heap.size w w' := ⟨_, rfl⟩
      have hR : R (.returned (.tuple #[.slice oa k ocap, .slice pa N.length pcap, .bool true])) X := by rw [hRd]; exact ⟨_, _, rfl, HR1.out, HR2.out, HBX.out⟩
      rw [← hRd]
      clear hRd HBX HR1 HR2 HX HCELL HT1 HT2 HO HGR HV3 HP3 HB3 T0 T1 T2
      have HR := Lib.hid hR
      clear hR
      show Leaves Tryz.prog Tryz.f27 _ R [] .returning X
      refine ⟨_, ?_, HR.out⟩
      rw [results_cell3 (p := 2) (u := 3) (q := 4) (a := 44) (b := 22) (c := 4) Tryz.results27]
      simp only [Array.getD, List.size_toArray, List.length_cons, List.length_nil]
      simp [asAddr, Result.andThen, go_sem, x0, x1, x2]
end Go.Proofs.YtiebedcldbmlhaaGreatDoor
