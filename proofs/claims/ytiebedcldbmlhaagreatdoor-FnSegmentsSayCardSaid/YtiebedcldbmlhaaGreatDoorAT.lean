/-
  ZzParse, of any pattern without constraints that does not panic: its parts as rows of values, and the names. Conditions: a pattern of at most a million bytes; the table that Itoa reads.
-/
import Derived.Test.YtiebedcldbmlhaaGreatDoorAI
namespace Go.Proofs.YtiebedcldbmlhaaGreatDoor
open Go.RowKit
set_option linter.unusedVariables false

/-- A part as eleven values, the constraints' list nil. -/
def zcells (x : Seg) : List Value :=
  [.string (bs x.const), .string (bs x.name), .string (bs x.cmp), .bool x.isParam, .bool x.greedy, .bool x.optional, .bool x.optSlash, .bool x.last, .int .i64 x.partCount, .int .i64 x.length, .slice none 0 0]
def zrow (M : List Seg) : List Value := M.flatMap zcells
theorem zcells_len (x : Seg) : (zcells x).length = 11 := rfl
theorem zcells_one (x : Seg) : ∀ u ∈ zcells x, u.oneCell' = true := by
  intro u hu
  simp only [zcells, List.mem_cons, List.not_mem_nil, or_false] at hu
  rcases hu with rfl | rfl | rfl | rfl | rfl | rfl | rfl | rfl | rfl | rfl | rfl <;> rfl
theorem zrow_snoc (M : List Seg) (x : Seg) : zrow (M ++ [x]) = zrow M ++ zcells x := by simp [zrow]
theorem zrow_take {M : List Seg} {k : Nat} {x : Seg} (h : M[k]? = some x) : zrow (M.take (k + 1)) = zrow (M.take k) ++ zcells x := by
  obtain ⟨hk, rfl⟩ := List.getElem?_eq_some_iff.1 h
  rw [List.take_succ_eq_append_getElem hk, zrow_snoc]
theorem zrow_at : ∀ (M : List Seg) (i : Nat) (x : Seg), M[i]? = some x → ∀ (j : Nat) (u : Value), (zcells x)[j]? = some u → (zrow M)[i * 11 + j]? = some u
  | [], i, x, h, j, u, hu => by simp at h
  | y :: M, 0, x, h, j, u, hu => by
    obtain rfl : y = x := by simpa using h
    have hj : j < (zcells y).length := (List.getElem?_eq_some_iff.1 hu).1
    show (zcells y ++ zrow M)[0 * 11 + j]? = some u
    rw [Nat.zero_mul, Nat.zero_add, List.getElem?_append_left hj]
    exact hu
  | y :: M, i + 1, x, h, j, u, hu => by
    have h1 := zrow_at M i x (by simpa using h) j u hu
    show (zcells y ++ zrow M)[(i + 1) * 11 + j]? = some u
    rw [List.getElem?_append_right (by rw [zcells_len]; omega), zcells_len, show (i + 1) * 11 + j - 11 = i * 11 + j by omega]
    exact h1
theorem info72 : (Tryz.prog.info? 72).map (fun i => (i.zero.map (fun z => z.cells.size), i.size, i.bytes)) = some (some 11, 11, 96) := by kernel_rfl
theorem infos_parts {P : Program} {t : TypeId} {n b : Nat} (h : (P.info? t).map (fun i => (i.zero.map (fun z => z.cells.size), i.size, i.bytes)) = some (some n, n, b)) : ∃ i z, P.info? t = some i ∧ i.zero = some z ∧ z.cells.size = n ∧ i.size = n ∧ i.bytes = b := by
  obtain ⟨i, h1, h2⟩ := Option.map_eq_some_iff.1 h
  simp only [Prod.mk.injEq, Option.map_eq_some_iff] at h2
  obtain ⟨⟨z, hz, hzs⟩, h3, h4⟩ := h2
  exact ⟨i, z, h1, hz, hzs, h3, h4⟩

set_option maxHeartbeats 4000000 in
set_option maxRecDepth 100000 in
theorem zzparse_any (s : ByteArray) (w : World) (hE : EnvZ w) (hs : s.size ≤ 1000000) (h0 : 0 < s.size) (h60 : ∀ x ∈ s.data.toList, x ≠ 60) (M : List Seg) (N : List Bs) (hM : parse s.data.toList = some (M, N)) :
    Calls Tryz.prog 36 #[.string s] w fun e w' => ∃ v pv, e = .returned (.tuple #[v, pv]) ∧ w'.ownsRow w.heap.size 72 11 v M.length (zrow M) ∧ w'.ownsRow w.heap.size 9 1 pv N.length (svals N) ∧ Below w.heap.size w w' := by
  obtain ⟨B, hB, htab⟩ := hE
  obtain ⟨hgood, hnames, h30, hML⟩ := parse_good hM h60 (by rw [size_data]; exact hs)
  have hcall := parse_any s B w hs h0 h60 M N hM hB htab
  have HCALL := Lib.hid hcall
  obtain ⟨i72, z72, hi72, hz72, hzs72, hsz72, hby72⟩ := infos_parts info72
  clear hcall htab hM h60 hgood hnames h30
  go_enter Tryz.func36, Tryz.ntmps36
  go_wp2_with fail
  refine HCALL.out.mono ?_
  rintro e w1 ⟨gs, cvs, r, cap, pv, st, pl, rfl, hin, hnod, hemp, hrow, hrl, hown, hb1⟩
  obtain ⟨ao, ncap, rfl⟩ := own_form hown
  obtain ⟨W2, hW2⟩ : ∃ W2, W2 = w1.alloc (Obj.cells #[Value.slice (some ⟨r, 0, none⟩) M.length cap, Value.slice ao N.length ncap, Value.int IntKind.i64 st, Value.int IntKind.i64 pl] 79) := ⟨_, rfl⟩
  have hb2 : Below w1.heap.size w1 W2 := by rw [hW2]; exact (Below.refl _ _).alloc (Nat.le_refl _) _
  have hQ1 : W2.cell? ⟨w1.heap.size, 1, none⟩ = some (.slice ao N.length ncap) := by rw [hW2]; simp [cell_alloc, objCell]
  have hQ0 : W2.cell? ⟨w1.heap.size, 0, none⟩ = some (.slice (some ⟨r, 0, none⟩) M.length cap) := by rw [hW2]; simp [cell_alloc, objCell]
  have hsW : W2.heap.size = w1.heap.size + 1 := by rw [hW2]; simp
  have HIN := Lib.hid (hin.below hb2)
  have HEMP := Lib.hid hemp
  have HROW := Lib.hid (fun (i : Nat) (g : Nat) (h : gs[i]? = some g) => (hb2.cell (p := ⟨r, i, none⟩) hrl).trans (hrow i g h))
  have HOWN := Lib.hid (own_below hown hb2)
  have HB2 := Lib.hid (hb1.trans (hb2.mono hb1.size))
  have HSW := Lib.hid hsW
  have HW2 := Lib.hid hW2
  have HQ1 := Lib.hid hQ1
  obtain ⟨m, hm⟩ : ∃ m, m = M.length := ⟨_, rfl⟩
  have HM := Lib.hid hm
  rw [← hm] at hQ0 HW2 hML ⊢
  clear hin hemp hrow hown hb1 hb2 hsW hW2 hQ1 HCALL hm hnod
  go_wp2_with fail
  rw [← HW2.out]
  go_loopw [5, 16] (fun v i wr => ∃ k : Nat, k ≤ m ∧ i = .int .i64 k ∧ wr.ownsRow W2.heap.size 72 11 v k (zrow (M.take k)) ∧ Below W2.heap.size W2 wr) (fun _ i _ => m - (intOf i).toNat)
  case atStart => exact ⟨0, Nat.zero_le _, rfl, World.ownsRow_nil _ _ _ _, Below.refl _ _⟩
  case round =>
    obtain ⟨k, hk, rfl, hown, hb⟩ := hrel
    have HO := Lib.hid hown
    have HB := Lib.hid hb
    clear hown hb
    by_cases hlt : k < m
    · obtain ⟨x, hx⟩ : ∃ x, M[k]? = some x := ⟨M[k]'(by have := HM.out; omega), List.getElem?_eq_getElem _⟩
      obtain ⟨g, cv, hg, hcv, ho⟩ := HIN.out.2.2 k x hx
      have hgl : g < W2.heap.size := ho.lt
      obtain ⟨ca, cc, rfl⟩ := HEMP.out cv (List.mem_of_getElem? hcv)
      have hr := HROW.out k g hg
      have hrk := (HB.out.cell (p := ⟨r, k, none⟩) (cell_lt hr)).trans hr
      have hso : SegObj wr g x (.slice ca 0 cc) := (HB.out.block g hgl).trans ho
      have HX := Lib.hid hx
      have HSO := Lib.hid hso
      have HGL := Lib.hid hgl
      clear hx hg hcv ho hr
      obtain ⟨a0, e0⟩ : ∃ v, v = bs x.const := ⟨_, rfl⟩
      obtain ⟨a1, e1⟩ : ∃ v, v = bs x.name := ⟨_, rfl⟩
      obtain ⟨a2, e2⟩ : ∃ v, v = bs x.cmp := ⟨_, rfl⟩
      obtain ⟨b3, e3⟩ : ∃ v, v = x.isParam := ⟨_, rfl⟩
      obtain ⟨b4, e4⟩ : ∃ v, v = x.greedy := ⟨_, rfl⟩
      obtain ⟨b5, e5⟩ : ∃ v, v = x.optional := ⟨_, rfl⟩
      obtain ⟨b6, e6⟩ : ∃ v, v = x.optSlash := ⟨_, rfl⟩
      obtain ⟨b7, e7⟩ : ∃ v, v = x.last := ⟨_, rfl⟩
      obtain ⟨p8, e8⟩ : ∃ v, v = x.partCount := ⟨_, rfl⟩
      obtain ⟨p9, e9⟩ : ∃ v, v = x.length := ⟨_, rfl⟩
      have HZ := Lib.hid (show zcells x = [(Value.string a0), (Value.string a1), (Value.string a2), (Value.bool b3), (Value.bool b4), (Value.bool b5), (Value.bool b6), (Value.bool b7), (Value.int IntKind.i64 p8), (Value.int IntKind.i64 p9), .slice none 0 0] by rw [e0, e1, e2, e3, e4, e5, e6, e7, e8, e9]; rfl)
      have hsc : segCells x (.slice ca 0 cc) = [(Value.string a0), (Value.bool b3), (Value.string a1), (Value.string a2), (Value.int IntKind.i64 p8), (Value.bool b4), (Value.bool b5), (Value.bool b7), (Value.bool b6), .slice ca 0 cc, (Value.int IntKind.i64 p9)] := by rw [e0, e1, e2, e3, e4, e5, e6, e7, e8, e9]; rfl
      have hblk : wr.heap[g]? = some (.cells #[(Value.string a0), (Value.bool b3), (Value.string a1), (Value.string a2), (Value.int IntKind.i64 p8), (Value.bool b4), (Value.bool b5), (Value.bool b7), (Value.bool b6), .slice ca 0 cc, (Value.int IntKind.i64 p9)] 99 (0, 0)) := by
        have h := HSO.out
        unfold SegObj at h
        rw [hsc] at h
        exact h
      have HBLK := Lib.hid hblk
      clear e0 e1 e2 e3 e4 e5 e6 e7 e8 e9 hsc hblk HSO
      have hS : ∀ v : World, v.heap[g]? = wr.heap[g]? → v.cell? ⟨g, 0, none⟩ = some (Value.string a0) ∧ v.cell? ⟨g, 2, none⟩ = some (Value.string a1) ∧ v.cell? ⟨g, 3, none⟩ = some (Value.string a2) ∧ v.cell? ⟨g, 1, none⟩ = some (Value.bool b3) ∧ v.cell? ⟨g, 5, none⟩ = some (Value.bool b4) ∧ v.cell? ⟨g, 6, none⟩ = some (Value.bool b5) ∧ v.cell? ⟨g, 8, none⟩ = some (Value.bool b6) ∧ v.cell? ⟨g, 7, none⟩ = some (Value.bool b7) ∧ v.cell? ⟨g, 4, none⟩ = some (Value.int IntKind.i64 p8) ∧ v.cell? ⟨g, 10, none⟩ = some (Value.int IntKind.i64 p9) := fun v hv => by
        have h := hv.trans HBLK.out
        exact ⟨obj_cell h rfl, obj_cell h rfl, obj_cell h rfl, obj_cell h rfl, obj_cell h rfl, obj_cell h rfl, obj_cell h rfl, obj_cell h rfl, obj_cell h rfl, obj_cell h rfl⟩
      have HSS := Lib.hid hS
      have HS := Lib.hid (hS wr.drew rfl)
      clear hS
      go_upto_region 6 with fail
      refine wp_region_any (by kernel_rfl) ?_
      refine AnyN.plain (S := fun v => v.cell? ⟨g, 0, none⟩ = some (Value.string a0) ∧ v.cell? ⟨g, 2, none⟩ = some (Value.string a1) ∧ v.cell? ⟨g, 3, none⟩ = some (Value.string a2) ∧ v.cell? ⟨g, 1, none⟩ = some (Value.bool b3) ∧ v.cell? ⟨g, 5, none⟩ = some (Value.bool b4) ∧ v.cell? ⟨g, 6, none⟩ = some (Value.bool b5) ∧ v.cell? ⟨g, 8, none⟩ = some (Value.bool b6) ∧ v.cell? ⟨g, 7, none⟩ = some (Value.bool b7) ∧ v.cell? ⟨g, 4, none⟩ = some (Value.int IntKind.i64 p8) ∧ v.cell? ⟨g, 10, none⟩ = some (Value.int IntKind.i64 p9)) (need := fun j => (j % 4 == 3 || j == 41) || j == 42) _ _ _ _ ?_
      change AnyN _ _ _ _ _ _ _ _ _ (World.drew wr)
      refine AnyN.take (i := 0) (x := .pointer (some ⟨g, 0, none⟩)) rfl (by kernel_rfl) (by kernel_rfl) (by kernel_rfl) rfl (fun _ _ _ h => h) (Or.inl ⟨by rfl, fun v => by go_simp⟩) ?_
      try simp only [List.getElem_toArray, List.getElem_cons_zero, List.getElem_cons_succ, Act.put, List.setIfInBounds_toArray, List.set_cons_zero, List.set_cons_succ]
      refine AnyN.take (i := 1) (x := .pointer (some ⟨g, 0, none⟩)) rfl (by kernel_rfl) (by kernel_rfl) (by kernel_rfl) rfl (fun _ _ _ h => h) (Or.inl ⟨by rfl, fun v => by go_simp⟩) ?_
      try simp only [List.getElem_toArray, List.getElem_cons_zero, List.getElem_cons_succ, Act.put, List.setIfInBounds_toArray, List.set_cons_zero, List.set_cons_succ]
      refine AnyN.take (i := 2) (x := .pointer (some ⟨g, 0, none⟩)) rfl (by kernel_rfl) (by kernel_rfl) (by kernel_rfl) rfl (fun _ _ _ h => h) (Or.inl ⟨by rfl, fun v => by go_simp⟩) ?_
      try simp only [List.getElem_toArray, List.getElem_cons_zero, List.getElem_cons_succ, Act.put, List.setIfInBounds_toArray, List.set_cons_zero, List.set_cons_succ]
      refine AnyN.take (i := 4) (x := .pointer (some ⟨g, 0, none⟩)) rfl (by kernel_rfl) (by kernel_rfl) (by kernel_rfl) rfl (fun _ _ _ h => h) (Or.inl ⟨by rfl, fun v => by go_simp⟩) ?_
      try simp only [List.getElem_toArray, List.getElem_cons_zero, List.getElem_cons_succ, Act.put, List.setIfInBounds_toArray, List.set_cons_zero, List.set_cons_succ]
      refine AnyN.take (i := 5) (x := .pointer (some ⟨g, 0, none⟩)) rfl (by kernel_rfl) (by kernel_rfl) (by kernel_rfl) rfl (fun _ _ _ h => h) (Or.inl ⟨by rfl, fun v => by go_simp⟩) ?_
      try simp only [List.getElem_toArray, List.getElem_cons_zero, List.getElem_cons_succ, Act.put, List.setIfInBounds_toArray, List.set_cons_zero, List.set_cons_succ]
      refine AnyN.take (i := 6) (x := .pointer (some ⟨g, 2, none⟩)) rfl (by kernel_rfl) (by kernel_rfl) (by kernel_rfl) rfl (fun _ _ _ h => h) (Or.inl ⟨by rfl, fun v => by go_simp⟩) ?_
      try simp only [List.getElem_toArray, List.getElem_cons_zero, List.getElem_cons_succ, Act.put, List.setIfInBounds_toArray, List.set_cons_zero, List.set_cons_succ]
      refine AnyN.take (i := 8) (x := .pointer (some ⟨g, 0, none⟩)) rfl (by kernel_rfl) (by kernel_rfl) (by kernel_rfl) rfl (fun _ _ _ h => h) (Or.inl ⟨by rfl, fun v => by go_simp⟩) ?_
      try simp only [List.getElem_toArray, List.getElem_cons_zero, List.getElem_cons_succ, Act.put, List.setIfInBounds_toArray, List.set_cons_zero, List.set_cons_succ]
      refine AnyN.take (i := 9) (x := .pointer (some ⟨g, 0, none⟩)) rfl (by kernel_rfl) (by kernel_rfl) (by kernel_rfl) rfl (fun _ _ _ h => h) (Or.inl ⟨by rfl, fun v => by go_simp⟩) ?_
      try simp only [List.getElem_toArray, List.getElem_cons_zero, List.getElem_cons_succ, Act.put, List.setIfInBounds_toArray, List.set_cons_zero, List.set_cons_succ]
      refine AnyN.take (i := 10) (x := .pointer (some ⟨g, 3, none⟩)) rfl (by kernel_rfl) (by kernel_rfl) (by kernel_rfl) rfl (fun _ _ _ h => h) (Or.inl ⟨by rfl, fun v => by go_simp⟩) ?_
      try simp only [List.getElem_toArray, List.getElem_cons_zero, List.getElem_cons_succ, Act.put, List.setIfInBounds_toArray, List.set_cons_zero, List.set_cons_succ]
      refine AnyN.take (i := 12) (x := .pointer (some ⟨g, 0, none⟩)) rfl (by kernel_rfl) (by kernel_rfl) (by kernel_rfl) rfl (fun _ _ _ h => h) (Or.inl ⟨by rfl, fun v => by go_simp⟩) ?_
      try simp only [List.getElem_toArray, List.getElem_cons_zero, List.getElem_cons_succ, Act.put, List.setIfInBounds_toArray, List.set_cons_zero, List.set_cons_succ]
      refine AnyN.take (i := 13) (x := .pointer (some ⟨g, 0, none⟩)) rfl (by kernel_rfl) (by kernel_rfl) (by kernel_rfl) rfl (fun _ _ _ h => h) (Or.inl ⟨by rfl, fun v => by go_simp⟩) ?_
      try simp only [List.getElem_toArray, List.getElem_cons_zero, List.getElem_cons_succ, Act.put, List.setIfInBounds_toArray, List.set_cons_zero, List.set_cons_succ]
      refine AnyN.take (i := 14) (x := .pointer (some ⟨g, 1, none⟩)) rfl (by kernel_rfl) (by kernel_rfl) (by kernel_rfl) rfl (fun _ _ _ h => h) (Or.inl ⟨by rfl, fun v => by go_simp⟩) ?_
      try simp only [List.getElem_toArray, List.getElem_cons_zero, List.getElem_cons_succ, Act.put, List.setIfInBounds_toArray, List.set_cons_zero, List.set_cons_succ]
      refine AnyN.take (i := 16) (x := .pointer (some ⟨g, 0, none⟩)) rfl (by kernel_rfl) (by kernel_rfl) (by kernel_rfl) rfl (fun _ _ _ h => h) (Or.inl ⟨by rfl, fun v => by go_simp⟩) ?_
      try simp only [List.getElem_toArray, List.getElem_cons_zero, List.getElem_cons_succ, Act.put, List.setIfInBounds_toArray, List.set_cons_zero, List.set_cons_succ]
      refine AnyN.take (i := 17) (x := .pointer (some ⟨g, 0, none⟩)) rfl (by kernel_rfl) (by kernel_rfl) (by kernel_rfl) rfl (fun _ _ _ h => h) (Or.inl ⟨by rfl, fun v => by go_simp⟩) ?_
      try simp only [List.getElem_toArray, List.getElem_cons_zero, List.getElem_cons_succ, Act.put, List.setIfInBounds_toArray, List.set_cons_zero, List.set_cons_succ]
      refine AnyN.take (i := 18) (x := .pointer (some ⟨g, 5, none⟩)) rfl (by kernel_rfl) (by kernel_rfl) (by kernel_rfl) rfl (fun _ _ _ h => h) (Or.inl ⟨by rfl, fun v => by go_simp⟩) ?_
      try simp only [List.getElem_toArray, List.getElem_cons_zero, List.getElem_cons_succ, Act.put, List.setIfInBounds_toArray, List.set_cons_zero, List.set_cons_succ]
      refine AnyN.take (i := 20) (x := .pointer (some ⟨g, 0, none⟩)) rfl (by kernel_rfl) (by kernel_rfl) (by kernel_rfl) rfl (fun _ _ _ h => h) (Or.inl ⟨by rfl, fun v => by go_simp⟩) ?_
      try simp only [List.getElem_toArray, List.getElem_cons_zero, List.getElem_cons_succ, Act.put, List.setIfInBounds_toArray, List.set_cons_zero, List.set_cons_succ]
      refine AnyN.take (i := 21) (x := .pointer (some ⟨g, 0, none⟩)) rfl (by kernel_rfl) (by kernel_rfl) (by kernel_rfl) rfl (fun _ _ _ h => h) (Or.inl ⟨by rfl, fun v => by go_simp⟩) ?_
      try simp only [List.getElem_toArray, List.getElem_cons_zero, List.getElem_cons_succ, Act.put, List.setIfInBounds_toArray, List.set_cons_zero, List.set_cons_succ]
      refine AnyN.take (i := 22) (x := .pointer (some ⟨g, 6, none⟩)) rfl (by kernel_rfl) (by kernel_rfl) (by kernel_rfl) rfl (fun _ _ _ h => h) (Or.inl ⟨by rfl, fun v => by go_simp⟩) ?_
      try simp only [List.getElem_toArray, List.getElem_cons_zero, List.getElem_cons_succ, Act.put, List.setIfInBounds_toArray, List.set_cons_zero, List.set_cons_succ]
      refine AnyN.take (i := 24) (x := .pointer (some ⟨g, 0, none⟩)) rfl (by kernel_rfl) (by kernel_rfl) (by kernel_rfl) rfl (fun _ _ _ h => h) (Or.inl ⟨by rfl, fun v => by go_simp⟩) ?_
      try simp only [List.getElem_toArray, List.getElem_cons_zero, List.getElem_cons_succ, Act.put, List.setIfInBounds_toArray, List.set_cons_zero, List.set_cons_succ]
      refine AnyN.take (i := 25) (x := .pointer (some ⟨g, 0, none⟩)) rfl (by kernel_rfl) (by kernel_rfl) (by kernel_rfl) rfl (fun _ _ _ h => h) (Or.inl ⟨by rfl, fun v => by go_simp⟩) ?_
      try simp only [List.getElem_toArray, List.getElem_cons_zero, List.getElem_cons_succ, Act.put, List.setIfInBounds_toArray, List.set_cons_zero, List.set_cons_succ]
      refine AnyN.take (i := 26) (x := .pointer (some ⟨g, 8, none⟩)) rfl (by kernel_rfl) (by kernel_rfl) (by kernel_rfl) rfl (fun _ _ _ h => h) (Or.inl ⟨by rfl, fun v => by go_simp⟩) ?_
      try simp only [List.getElem_toArray, List.getElem_cons_zero, List.getElem_cons_succ, Act.put, List.setIfInBounds_toArray, List.set_cons_zero, List.set_cons_succ]
      refine AnyN.take (i := 28) (x := .pointer (some ⟨g, 0, none⟩)) rfl (by kernel_rfl) (by kernel_rfl) (by kernel_rfl) rfl (fun _ _ _ h => h) (Or.inl ⟨by rfl, fun v => by go_simp⟩) ?_
      try simp only [List.getElem_toArray, List.getElem_cons_zero, List.getElem_cons_succ, Act.put, List.setIfInBounds_toArray, List.set_cons_zero, List.set_cons_succ]
      refine AnyN.take (i := 29) (x := .pointer (some ⟨g, 0, none⟩)) rfl (by kernel_rfl) (by kernel_rfl) (by kernel_rfl) rfl (fun _ _ _ h => h) (Or.inl ⟨by rfl, fun v => by go_simp⟩) ?_
      try simp only [List.getElem_toArray, List.getElem_cons_zero, List.getElem_cons_succ, Act.put, List.setIfInBounds_toArray, List.set_cons_zero, List.set_cons_succ]
      refine AnyN.take (i := 30) (x := .pointer (some ⟨g, 7, none⟩)) rfl (by kernel_rfl) (by kernel_rfl) (by kernel_rfl) rfl (fun _ _ _ h => h) (Or.inl ⟨by rfl, fun v => by go_simp⟩) ?_
      try simp only [List.getElem_toArray, List.getElem_cons_zero, List.getElem_cons_succ, Act.put, List.setIfInBounds_toArray, List.set_cons_zero, List.set_cons_succ]
      refine AnyN.take (i := 32) (x := .pointer (some ⟨g, 0, none⟩)) rfl (by kernel_rfl) (by kernel_rfl) (by kernel_rfl) rfl (fun _ _ _ h => h) (Or.inl ⟨by rfl, fun v => by go_simp⟩) ?_
      try simp only [List.getElem_toArray, List.getElem_cons_zero, List.getElem_cons_succ, Act.put, List.setIfInBounds_toArray, List.set_cons_zero, List.set_cons_succ]
      refine AnyN.take (i := 33) (x := .pointer (some ⟨g, 0, none⟩)) rfl (by kernel_rfl) (by kernel_rfl) (by kernel_rfl) rfl (fun _ _ _ h => h) (Or.inl ⟨by rfl, fun v => by go_simp⟩) ?_
      try simp only [List.getElem_toArray, List.getElem_cons_zero, List.getElem_cons_succ, Act.put, List.setIfInBounds_toArray, List.set_cons_zero, List.set_cons_succ]
      refine AnyN.take (i := 34) (x := .pointer (some ⟨g, 4, none⟩)) rfl (by kernel_rfl) (by kernel_rfl) (by kernel_rfl) rfl (fun _ _ _ h => h) (Or.inl ⟨by rfl, fun v => by go_simp⟩) ?_
      try simp only [List.getElem_toArray, List.getElem_cons_zero, List.getElem_cons_succ, Act.put, List.setIfInBounds_toArray, List.set_cons_zero, List.set_cons_succ]
      refine AnyN.take (i := 36) (x := .pointer (some ⟨g, 0, none⟩)) rfl (by kernel_rfl) (by kernel_rfl) (by kernel_rfl) rfl (fun _ _ _ h => h) (Or.inl ⟨by rfl, fun v => by go_simp⟩) ?_
      try simp only [List.getElem_toArray, List.getElem_cons_zero, List.getElem_cons_succ, Act.put, List.setIfInBounds_toArray, List.set_cons_zero, List.set_cons_succ]
      refine AnyN.take (i := 37) (x := .pointer (some ⟨g, 0, none⟩)) rfl (by kernel_rfl) (by kernel_rfl) (by kernel_rfl) rfl (fun _ _ _ h => h) (Or.inl ⟨by rfl, fun v => by go_simp⟩) ?_
      try simp only [List.getElem_toArray, List.getElem_cons_zero, List.getElem_cons_succ, Act.put, List.setIfInBounds_toArray, List.set_cons_zero, List.set_cons_succ]
      refine AnyN.take (i := 38) (x := .pointer (some ⟨g, 10, none⟩)) rfl (by kernel_rfl) (by kernel_rfl) (by kernel_rfl) rfl (fun _ _ _ h => h) (Or.inl ⟨by rfl, fun v => by go_simp⟩) ?_
      try simp only [List.getElem_toArray, List.getElem_cons_zero, List.getElem_cons_succ, Act.put, List.setIfInBounds_toArray, List.set_cons_zero, List.set_cons_succ]
      refine AnyN.load (i := 3) (x := (Value.string a0)) rfl (by kernel_rfl) (by kernel_rfl) (by kernel_rfl) (by kernel_rfl) (fun _ _ _ h => h) (Or.inl ⟨by rfl, fun v hv => by obtain ⟨u0, u1, u2, u3, u4, u5, u6, u7, u8, u9⟩ := hv; go_simp⟩) HS.out ?_
      try simp only [List.getElem_toArray, List.getElem_cons_zero, List.getElem_cons_succ, Act.put, List.setIfInBounds_toArray, List.set_cons_zero, List.set_cons_succ]
      refine AnyN.load (i := 7) (x := (Value.string a1)) rfl (by kernel_rfl) (by kernel_rfl) (by kernel_rfl) (by kernel_rfl) (fun _ _ _ h => h) (Or.inl ⟨by rfl, fun v hv => by obtain ⟨u0, u1, u2, u3, u4, u5, u6, u7, u8, u9⟩ := hv; go_simp⟩) HS.out ?_
      try simp only [List.getElem_toArray, List.getElem_cons_zero, List.getElem_cons_succ, Act.put, List.setIfInBounds_toArray, List.set_cons_zero, List.set_cons_succ]
      refine AnyN.load (i := 11) (x := (Value.string a2)) rfl (by kernel_rfl) (by kernel_rfl) (by kernel_rfl) (by kernel_rfl) (fun _ _ _ h => h) (Or.inl ⟨by rfl, fun v hv => by obtain ⟨u0, u1, u2, u3, u4, u5, u6, u7, u8, u9⟩ := hv; go_simp⟩) HS.out ?_
      try simp only [List.getElem_toArray, List.getElem_cons_zero, List.getElem_cons_succ, Act.put, List.setIfInBounds_toArray, List.set_cons_zero, List.set_cons_succ]
      refine AnyN.load (i := 15) (x := (Value.bool b3)) rfl (by kernel_rfl) (by kernel_rfl) (by kernel_rfl) (by kernel_rfl) (fun _ _ _ h => h) (Or.inl ⟨by rfl, fun v hv => by obtain ⟨u0, u1, u2, u3, u4, u5, u6, u7, u8, u9⟩ := hv; go_simp⟩) HS.out ?_
      try simp only [List.getElem_toArray, List.getElem_cons_zero, List.getElem_cons_succ, Act.put, List.setIfInBounds_toArray, List.set_cons_zero, List.set_cons_succ]
      refine AnyN.load (i := 19) (x := (Value.bool b4)) rfl (by kernel_rfl) (by kernel_rfl) (by kernel_rfl) (by kernel_rfl) (fun _ _ _ h => h) (Or.inl ⟨by rfl, fun v hv => by obtain ⟨u0, u1, u2, u3, u4, u5, u6, u7, u8, u9⟩ := hv; go_simp⟩) HS.out ?_
      try simp only [List.getElem_toArray, List.getElem_cons_zero, List.getElem_cons_succ, Act.put, List.setIfInBounds_toArray, List.set_cons_zero, List.set_cons_succ]
      refine AnyN.load (i := 23) (x := (Value.bool b5)) rfl (by kernel_rfl) (by kernel_rfl) (by kernel_rfl) (by kernel_rfl) (fun _ _ _ h => h) (Or.inl ⟨by rfl, fun v hv => by obtain ⟨u0, u1, u2, u3, u4, u5, u6, u7, u8, u9⟩ := hv; go_simp⟩) HS.out ?_
      try simp only [List.getElem_toArray, List.getElem_cons_zero, List.getElem_cons_succ, Act.put, List.setIfInBounds_toArray, List.set_cons_zero, List.set_cons_succ]
      refine AnyN.load (i := 27) (x := (Value.bool b6)) rfl (by kernel_rfl) (by kernel_rfl) (by kernel_rfl) (by kernel_rfl) (fun _ _ _ h => h) (Or.inl ⟨by rfl, fun v hv => by obtain ⟨u0, u1, u2, u3, u4, u5, u6, u7, u8, u9⟩ := hv; go_simp⟩) HS.out ?_
      try simp only [List.getElem_toArray, List.getElem_cons_zero, List.getElem_cons_succ, Act.put, List.setIfInBounds_toArray, List.set_cons_zero, List.set_cons_succ]
      refine AnyN.load (i := 31) (x := (Value.bool b7)) rfl (by kernel_rfl) (by kernel_rfl) (by kernel_rfl) (by kernel_rfl) (fun _ _ _ h => h) (Or.inl ⟨by rfl, fun v hv => by obtain ⟨u0, u1, u2, u3, u4, u5, u6, u7, u8, u9⟩ := hv; go_simp⟩) HS.out ?_
      try simp only [List.getElem_toArray, List.getElem_cons_zero, List.getElem_cons_succ, Act.put, List.setIfInBounds_toArray, List.set_cons_zero, List.set_cons_succ]
      refine AnyN.load (i := 35) (x := (Value.int IntKind.i64 p8)) rfl (by kernel_rfl) (by kernel_rfl) (by kernel_rfl) (by kernel_rfl) (fun _ _ _ h => h) (Or.inl ⟨by rfl, fun v hv => by obtain ⟨u0, u1, u2, u3, u4, u5, u6, u7, u8, u9⟩ := hv; go_simp⟩) HS.out ?_
      try simp only [List.getElem_toArray, List.getElem_cons_zero, List.getElem_cons_succ, Act.put, List.setIfInBounds_toArray, List.set_cons_zero, List.set_cons_succ]
      refine AnyN.load (i := 39) (x := (Value.int IntKind.i64 p9)) rfl (by kernel_rfl) (by kernel_rfl) (by kernel_rfl) (by kernel_rfl) (fun _ _ _ h => h) (Or.inl ⟨by rfl, fun v hv => by obtain ⟨u0, u1, u2, u3, u4, u5, u6, u7, u8, u9⟩ := hv; go_simp⟩) HS.out ?_
      try simp only [List.getElem_toArray, List.getElem_cons_zero, List.getElem_cons_succ, Act.put, List.setIfInBounds_toArray, List.set_cons_zero, List.set_cons_succ]
      refine AnyN.take (i := 40) (x := .agg #[(Value.string a0), (Value.string a1), (Value.string a2), (Value.bool b3), (Value.bool b4), (Value.bool b5), (Value.bool b6), (Value.bool b7), (Value.int IntKind.i64 p8), (Value.int IntKind.i64 p9), .slice none 0 0]) rfl (by kernel_rfl) (by kernel_rfl) (by kernel_rfl) rfl (fun _ _ _ h => h) (Or.inl ⟨by rfl, fun v => by go_simp⟩) ?_
      try simp only [List.getElem_toArray, List.getElem_cons_zero, List.getElem_cons_succ, Act.put, List.setIfInBounds_toArray, List.set_cons_zero, List.set_cons_succ]
      refine AnyN.all (rs := [41]) (by kernel_rfl) (by simp) (one_of ?_)
      refine op_via rfl rfl (fun K hK => ?_)
      try simp only [List.getElem_toArray, List.getElem_cons_zero, List.getElem_cons_succ]
      go_simp
      refine hK _ _ ⟨fun _ => HSS.out _ (Below.heap_alloc wr.drew _ g (show g < wr.heap.size from hso.lt)), ?_⟩
      clear hK K
      try simp only [List.getElem_toArray, List.getElem_cons_zero, List.getElem_cons_succ, Act.put, List.setIfInBounds_toArray, List.set_cons_zero, List.set_cons_succ]
      refine AnyN.all (rs := [42]) (by kernel_rfl) (by simp) (one_of ?_)
      refine op_via rfl rfl (fun K hK => ?_)
      try simp only [List.getElem_toArray, List.getElem_cons_zero, List.getElem_cons_succ]
      go_simp
      obtain ⟨W5, hW5⟩ : ∃ W5, W5 = (wr.alloc (Obj.cells #[Value.string a0, Value.string a1, Value.string a2, Value.bool b3, Value.bool b4, Value.bool b5, Value.bool b6, Value.bool b7, Value.int IntKind.i64 p8, Value.int IntKind.i64 p9, Value.slice none 0 0] 72)).drew := ⟨_, rfl⟩
      rw [← hW5]
      have hb5 : Below wr.heap.size wr W5 := by rw [hW5]; exact ⟨rfl, rfl, rfl, by simp, fun j hj => Below.heap_alloc wr _ j hj⟩
      have h5 : W5.heap[wr.heap.size]? = some (.cells #[Value.string a0, Value.string a1, Value.string a2, Value.bool b3, Value.bool b4, Value.bool b5, Value.bool b6, Value.bool b7, Value.int IntKind.i64 p8, Value.int IntKind.i64 p9, Value.slice none 0 0] 72 (0, 0)) := by rw [hW5]; exact heap_alloc_new wr _
      refine hK _ _ ⟨fun _ => HSS.out _ (hb5.block g hso.lt), ?_⟩
      clear hK K hW5
      try simp only [List.getElem_toArray, List.getElem_cons_zero, List.getElem_cons_succ, Act.put, List.setIfInBounds_toArray, List.set_cons_zero, List.set_cons_succ]
      refine AnyN.fin (by kernel_rfl) ?_ _
      have hc9 : W5.cell? ⟨g, 9, none⟩ = some (.slice ca 0 cc) := obj_cell ((hb5.block g hso.lt).trans HBLK.out) rfl
      have n0 := obj_cell (i := 0) h5 rfl
      have n1 := obj_cell (i := 1) h5 rfl
      have n2 := obj_cell (i := 2) h5 rfl
      have n3 := obj_cell (i := 3) h5 rfl
      have n4 := obj_cell (i := 4) h5 rfl
      have n5 := obj_cell (i := 5) h5 rfl
      have n6 := obj_cell (i := 6) h5 rfl
      have n7 := obj_cell (i := 7) h5 rfl
      have n8 := obj_cell (i := 8) h5 rfl
      have n9 := obj_cell (i := 9) h5 rfl
      have n10 := obj_cell (i := 10) h5 rfl
      have HB5 := Lib.hid hb5
      clear HS HSS h5 hb5
      go_wp2_with fail
      go_loopw [66] (fun i wx => i = .int .i64 0 ∧ W5 = wx) (fun _ _ => 0)
      case atStart => exact ⟨rfl, rfl⟩
      case round =>
        obtain ⟨rfl, rfl⟩ := hrel
        have HO5 := Lib.hid (own_below HO.out HB5.out)
        have hone : ∀ u ∈ [Value.string a0, Value.string a1, Value.string a2, Value.bool b3, Value.bool b4, Value.bool b5, Value.bool b6, Value.bool b7, Value.int IntKind.i64 p8, Value.int IntKind.i64 p9, Value.slice none 0 0], u.oneCell' = true := by rw [← HZ.out]; exact zcells_one x
        have HONE := Lib.hid hone
        clear hone
        have hbz := HB.out.size
        have hbz5 := HB5.out.size
        go_wp2_with (at_builtin; refine wpList_append_own _ rfl (.tmp 79) (.tmp 81) 67 rfl W2.heap.size 72 i72 z72 11 96 Tryz.underlying67 hi72 hz72 hsz72 hby72 hzs72 (by decide) _ _ _ (by rfl) (HO5.out.alloc _) ⟨W5.heap.size, 0, none⟩ 1 1 [Value.string a0, Value.string a1, Value.string a2, Value.bool b3, Value.bool b4, Value.bool b5, Value.bool b6, Value.bool b7, Value.int IntKind.i64 p8, Value.int IntKind.i64 p9, Value.slice none 0 0] (by rfl) rfl (by intro j y hy; rw [add_cell, Nat.zero_add]; simpa [cell_alloc, objCell] using hy) HONE.out (by simp [maxLen]; omega) (by omega) (by simp; omega) ?_; intro v' w2 hown' hgrow hnil')
        have hrow2 : w2.ownsRow W2.heap.size 72 11 v' (k + 1) (zrow (M.take (k + 1))) := by rw [zrow_take HX.out, HZ.out]; exact hown'
        have hlt' := fun k' h => (HO5.out.lt (k := k') h).1
        have hbw := ((HB.out.trans (HB5.out.mono HB.out.size)).alloc (by omega) (.cells #[Value.string a0, Value.string a1, Value.string a2, Value.bool b3, Value.bool b4, Value.bool b5, Value.bool b6, Value.bool b7, Value.int IntKind.i64 p8, Value.int IntKind.i64 p9, Value.slice none 0 0] 72)).grown hgrow (by simp; omega) hlt'
        exact ⟨⟨k + 1, by omega, by go_num, hrow2, hbw⟩, by simp [intOf]; omega⟩
    · obtain rfl : k = m := by omega
      have hq := (HB.out.cell (p := ⟨w1.heap.size, 1, none⟩) (cell_lt HQ1.out)).trans HQ1.out
      have htk : zrow (M.take k) = zrow M := by rw [HM.out, List.take_length]
      have HTK := Lib.hid htk
      clear htk
      go_upto_region 14 with fail
      go_quiet (fail)
      go_wp2_with fail
      have hdr : Below wr.heap.size wr (wr.drewN nq) := ⟨rfl, rfl, rfl, Nat.le_refl _, fun _ _ => rfl⟩
      go_ret2
      refine ⟨_, _, rfl, ?_, ?_, ?_⟩
      · have h := HO.out
        rw [HTK.out] at h
        rw [← HM.out]
        exact own_base (own_below h hdr) (by have := HB2.out.size; have := HSW.out; omega)
      · exact own_below (own_below HOWN.out HB.out) hdr
      · exact HB2.out.trans ((HB.out.trans (hdr.mono HB.out.size)).mono HB2.out.size)
end Go.Proofs.YtiebedcldbmlhaaGreatDoor
