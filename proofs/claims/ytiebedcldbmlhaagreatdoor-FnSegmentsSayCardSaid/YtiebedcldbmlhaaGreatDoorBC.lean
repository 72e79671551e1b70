/-
  partsOf, of any list of segments that the call has made. Conditions: at most a million segments.
-/
import Derived.Test.YtiebedcldbmlhaaGreatDoorBB
import Derived.Test.YtiebedcldbmlhaaGreatDoorAU
namespace Go.Proofs.YtiebedcldbmlhaaGreatDoor
open Go.RowKit
set_option linter.unusedVariables false

/-- A part of the reference as six values. -/
def pcells (x : Pt) : List Value := [.string (bs x.const), .string (bs x.name), .bool x.param, .bool x.greedy, .bool x.optional, .slice none 0 0]
def prow (L : List Pt) : List Value := L.flatMap pcells
theorem pcells_len (x : Pt) : (pcells x).length = 6 := rfl
theorem pcells_one (x : Pt) : ∀ u ∈ pcells x, u.oneCell' = true := by
  intro u hu
  simp only [pcells, List.mem_cons, List.not_mem_nil, or_false] at hu
  rcases hu with rfl | rfl | rfl | rfl | rfl | rfl <;> rfl
theorem prow_snoc (L : List Pt) (x : Pt) : prow (L ++ [x]) = prow L ++ pcells x := by simp [prow]
theorem prow_at : ∀ (L : List Pt) (i : Nat) (x : Pt), L[i]? = some x → ∀ (j : Nat) (u : Value), (pcells x)[j]? = some u → (prow L)[i * 6 + j]? = some u
  | [], i, x, h, j, u, hu => by simp at h
  | y :: L, 0, x, h, j, u, hu => by
    obtain rfl : y = x := by simpa using h
    have hj : j < (pcells y).length := (List.getElem?_eq_some_iff.1 hu).1
    show (pcells y ++ prow L)[0 * 6 + j]? = some u
    rw [Nat.zero_mul, Nat.zero_add, List.getElem?_append_left hj]
    exact hu
  | y :: L, i + 1, x, h, j, u, hu => by
    have h1 := prow_at L i x (by simpa using h) j u hu
    show (pcells y ++ prow L)[(i + 1) * 6 + j]? = some u
    rw [List.getElem?_append_right (by rw [pcells_len]; omega), pcells_len, show (i + 1) * 6 + j - 6 = i * 6 + j by omega]
    exact h1
theorem info57 : (Tryz.prog.info? 57).map (fun i => (i.zero.map (fun z => z.cells.size), i.size, i.bytes)) = some (some 6, 6, 64) := by kernel_rfl
theorem own_cell6 {w : World} {base : Nat} {e : TypeId} {v : Value} {n : Nat} {L : List Pt} (h : w.ownsRow base e 6 v n (prow L)) (hn : 0 < n) : ∃ g cap, v = .slice (some ⟨g, 0, none⟩) n cap ∧ base ≤ g ∧ g < w.heap.size ∧
    ∀ (i : Nat) (x : Pt), L[i]? = some x → ∀ j u, (pcells x)[j]? = some u → w.cell? ⟨g, i * 6 + j, none⟩ = some u := by
  have hc := fun g hg => h.cells (g := g) hg
  obtain ⟨_, ⟨_, h0⟩ | ⟨g, cap, cur, rfl, hb, hh, _⟩⟩ := h
  · omega
  · refine ⟨g, cap, rfl, hb, (Array.getElem?_eq_some_iff.1 hh).1, fun i x hx j u hu => ?_⟩
    have := hc g rfl _ u (prow_at L i x hx j u hu)
    rw [add_cell, Nat.zero_add] at this
    exact this
theorem core_take {T : List Seg} {k : Nat} {x : Seg} (h : T[k]? = some x) : prow ((T.take (k + 1)).map coreOf) = prow ((T.take k).map coreOf) ++ pcells (coreOf x) := by
  obtain ⟨hk, rfl⟩ := List.getElem?_eq_some_iff.1 h
  rw [List.take_succ_eq_append_getElem hk, List.map_append, List.map_singleton, prow_snoc]

set_option maxHeartbeats 4000000 in
set_option maxRecDepth 100000 in
theorem partsOf_any (va : Option Addr) (vcap base : Nat) (T : List Seg) (w : World) (hl : T.length ≤ 1000000) (hv : w.ownsRow base 49 11 (.slice va T.length vcap) T.length (zrow T)) :
    Calls Tryz.prog 29 #[.slice va T.length vcap] w fun e w' => ∃ v, e = .returned v ∧ w'.ownsRow w.heap.size 57 6 v T.length (prow (T.map coreOf)) ∧ Below w.heap.size w w' := by
  obtain ⟨i57, z57, hi57, hz57, hzs57, hsz57, hby57⟩ := infos_parts info57
  obtain ⟨m, hm⟩ : ∃ m, m = T.length := ⟨_, rfl⟩
  rw [← hm] at hl hv ⊢
  have HM := Lib.hid hm
  have HV := Lib.hid hv
  clear hm hv
  go_enter Tryz.func29, Tryz.ntmps29
  go_wp2_with fail
  go_loopw [3, 9] (fun ov i wr => ∃ k : Nat, k ≤ m ∧ i = .int .i64 k ∧ wr.ownsRow w.heap.size 57 6 ov k (prow ((T.take k).map coreOf)) ∧ Below w.heap.size w wr) (fun _ i _ => m - (intOf i).toNat)
  case atStart => exact ⟨0, Nat.zero_le _, rfl, World.ownsRow_nil _ _ _ _, Below.refl _ _⟩
  case round =>
    obtain ⟨k, hk, rfl, hown, hb⟩ := hrel
    by_cases hlt : k < m
    · obtain ⟨x, hx⟩ : ∃ x, T[k]? = some x := ⟨T[k]'(by have := HM.out; omega), List.getElem?_eq_getElem _⟩
      obtain ⟨gv, gcap, he, hgb, hgl, hcs⟩ := own_cell11 (own_below HV.out hb) (by omega)
      cases he
      have hcx := hcs k x hx
      obtain ⟨a0, e0⟩ : ∃ v, v = bs x.const := ⟨_, rfl⟩
      obtain ⟨a1, e1⟩ : ∃ v, v = bs x.name := ⟨_, rfl⟩
      obtain ⟨a2, e2⟩ : ∃ v, v = bs x.cmp := ⟨_, rfl⟩
      obtain ⟨b3, e3⟩ : ∃ v, v = x.isParam := ⟨_, rfl⟩
      obtain ⟨b4, e4⟩ : ∃ v, v = x.greedy := ⟨_, rfl⟩
      obtain ⟨b5, e5⟩ : ∃ v, v = x.optional := ⟨_, rfl⟩
      obtain ⟨b6, e6⟩ : ∃ v, v = x.optSlash := ⟨_, rfl⟩
      obtain ⟨b7, e7⟩ : ∃ v, v = x.last := ⟨_, rfl⟩
      obtain ⟨p8, e8⟩ : ∃ v, v = x.partCount := ⟨_, rfl⟩
      obtain ⟨p9, e9⟩ : ∃ v, v = x.length := ⟨_, rfl⟩
      have hz : zcells x = [Value.string a0, Value.string a1, Value.string a2, Value.bool b3, Value.bool b4, Value.bool b5, Value.bool b6, Value.bool b7, Value.int IntKind.i64 p8, Value.int IntKind.i64 p9, Value.slice none 0 0] := by rw [e0, e1, e2, e3, e4, e5, e6, e7, e8, e9]; rfl
      have hpz : pcells (coreOf x) = [Value.string a0, Value.string a1, Value.bool b3, Value.bool b4, Value.bool b5, Value.slice none 0 0] := by rw [e0, e1, e3, e4, e5]; rfl
      rw [hz] at hcx
      have d0 : wr.cell? ⟨gv, k * 11, none⟩ = _ := hcx 0 _ rfl
      have d1 := hcx 1 _ rfl
      have d2 := hcx 2 _ rfl
      have d3 := hcx 3 _ rfl
      have d4 := hcx 4 _ rfl
      have d5 := hcx 5 _ rfl
      have d6 := hcx 6 _ rfl
      have d7 := hcx 7 _ rfl
      have d8 := hcx 8 _ rfl
      have d9 := hcx 9 _ rfl
      have d10 := hcx 10 _ rfl
      have HX := Lib.hid hx
      have HPZ := Lib.hid hpz
      have HO := Lib.hid hown
      have HB := Lib.hid hb
      have hone : ∀ u ∈ [Value.string a0, Value.string a1, Value.bool b3, Value.bool b4, Value.bool b5, Value.slice none 0 0], u.oneCell' = true := by rw [← hpz]; exact pcells_one _
      have HONE := Lib.hid hone
      have hbz := hb.size
      clear e0 e1 e2 e3 e4 e5 e6 e7 e8 e9 hz hpz hx hown hb hcx hcs hone
      go_upto_region 6 with fail
      obtain ⟨W5, hW5⟩ : ∃ W5, W5 = ((wr.alloc (Obj.cells #[Value.string a0, Value.string a1, Value.string a2, Value.bool b3, Value.bool b4, Value.bool b5, Value.bool b6, Value.bool b7, Value.int IntKind.i64 p8, Value.int IntKind.i64 p9, Value.slice none 0 0] 49)).alloc (Obj.cells #[Value.string a0, Value.string a1, Value.bool b3, Value.bool b4, Value.bool b5, Value.slice none 0 0] 57)) := ⟨_, rfl⟩
      rw [← hW5]
      have s1 : (wr.alloc (Obj.cells #[Value.string a0, Value.string a1, Value.string a2, Value.bool b3, Value.bool b4, Value.bool b5, Value.bool b6, Value.bool b7, Value.int IntKind.i64 p8, Value.int IntKind.i64 p9, Value.slice none 0 0] 49)).heap.size = wr.heap.size + 1 := by simp
      have hb5 : Below wr.heap.size wr W5 := by rw [hW5]; exact ((Below.refl _ _).alloc (Nat.le_refl _) _).alloc (by simp) _
      have hz5 : W5.heap.size = wr.heap.size + 1 + 1 := by rw [hW5]; simp
      have h57 : W5.heap[wr.heap.size + 1]? = some (.cells #[Value.string a0, Value.string a1, Value.bool b3, Value.bool b4, Value.bool b5, Value.slice none 0 0] 57 (0, 0)) := by rw [hW5, ← s1, heap_alloc_new]
      have m0 := obj_cell (i := 0) h57 rfl
      have m1 := obj_cell (i := 1) h57 rfl
      have m2 := obj_cell (i := 2) h57 rfl
      have m3 := obj_cell (i := 3) h57 rfl
      have m4 := obj_cell (i := 4) h57 rfl
      have m5 := obj_cell (i := 5) h57 rfl
      have HO5 := Lib.hid (own_below HO.out hb5)
      have HZ5 := Lib.hid hz5
      have HB5 := Lib.hid (HB.out.trans (hb5.mono HB.out.size))
      have hbase : w.heap.size ≤ W5.heap.size := by omega
      clear s1 hb5 hz5 h57 hW5 d0 d1 d2 d3 d4 d5 d6 d7 d8 d9 d10
      go_wp2_with (at_builtin; refine wpList_append_own _ rfl (.tmp 24) (.tmp 26) 51 rfl w.heap.size 57 i57 z57 6 64 Tryz.underlying51 hi57 hz57 hsz57 hby57 hzs57 (by decide) _ _ _ (by rfl) (HO5.out.alloc _) ⟨W5.heap.size, 0, none⟩ 1 1 [Value.string a0, Value.string a1, Value.bool b3, Value.bool b4, Value.bool b5, Value.slice none 0 0] (by rfl) rfl (by intro j y hy; rw [add_cell, Nat.zero_add]; simpa [cell_alloc, objCell] using hy) HONE.out (by simp [maxLen]; omega) (by omega) (by simp; omega) ?_; intro v' w6 hown' hgrow hnil')
      have hlt' := fun k' h => (HO5.out.lt (k := k') h).1
      have hbw := (HB5.out.alloc (by omega) (.cells #[Value.string a0, Value.string a1, Value.bool b3, Value.bool b4, Value.bool b5, Value.slice none 0 0] 57)).grown hgrow (by simp; omega) hlt'
      exact ⟨⟨k + 1, by omega, by go_num, by rw [core_take HX.out, HPZ.out]; exact hown', hbw⟩, by simp [intOf]; omega⟩
    · obtain rfl : k = m := by omega
      have HO := Lib.hid hown
      have HB := Lib.hid hb
      clear hown hb
      go_wp2_with fail
      go_ret
      refine ⟨_, rfl, ?_, HB.out⟩
      have h := HO.out
      rw [HM.out, List.take_length, ← HM.out] at h
      exact h
end Go.Proofs.YtiebedcldbmlhaaGreatDoor
