/-
  Joined: ZzMatch and Values, of any pattern and any path: a panic is told; The laws' own small functions: holds, short, word, begins, ends, zzFits1.
  Conditions: each law's own.
-/
import Derived.Test.YtiebedcldbmlhaaGreatDoorK35
import Derived.Test.YtiebedcldbmlhaaGreatDoorK21
import Derived.Test.YtiebedcldbmlhaaGreatDoorK25
namespace Go.Proofs.YtiebedcldbmlhaaGreatDoor
open Go.RowKit
set_option linter.unusedVariables false

/-- What ZzMatch leaves. -/
def ZzD (T : Nat → Nat × Nat) (part : Bool) (p : Bs) (w : World) (o : Option (List Seg × List Bs)) (e : Ending) (w' : World) : Prop :=
  Below w.heap.size w w' ∧ match o with
  | none => Dies e
  | some MN => ∃ v is, e = .returned (.tuple #[v, .bool is]) ∧ Matched w (matchGo (chk T) part MN.1 p []) w' v is
/-- What Values leaves. -/
def ValD (T : Nat → Nat × Nat) (part : Bool) (p : Bs) (w : World) (o : Option (List Seg × List Bs)) (e : Ending) (w' : World) : Prop :=
  Below w.heap.size w w' ∧ ∃ v is ok, e = .returned (.tuple #[v, .bool is, .bool ok]) ∧ match o with
  | none => v = .slice none 0 0 ∧ is = false ∧ ok = false
  | some MN => ok = true ∧ Matched w (matchGo (chk T) part MN.1 p []) w' v is
theorem matchK_count (K : Con → Bs → Bool) (part : Bool) : ∀ (M : List Seg) (s : Bs) (vs r : List Bs), matchGo K part M s vs = some r → r.length = vs.length + (M.filter (·.isParam)).length
  | [], s, vs, r, h => by
    rw [mj_nil] at h
    split at h
    · cases h
    · cases h; simp
  | x :: M, s, vs, r, h => by
    cases hp : x.isParam with
    | false =>
      rw [List.filter_cons_of_neg (by simp [hp])]
      rw [mj_const hp] at h
      split at h
      · exact matchK_count K part M _ _ _ h
      · split at h
        · exact matchK_count K part M _ _ _ h
        · cases h
    | true =>
      rw [List.filter_cons_of_pos (by simp [hp]), List.length_cons]
      rw [mj_param hp] at h
      split at h
      · cases h
      · split at h
        · cases h
        · have := matchK_count K part M _ _ _ h
          simp only [List.length_append, List.length_singleton] at this
          omega

set_option maxHeartbeats 4000000 in
set_option maxRecDepth 100000 in
theorem zzmatch_all (T : Nat → Nat × Nat) (s p : ByteArray) (part : Bool) (w : World) (hE : EnvA T w) (hs : s.size ≤ 1000000) (hp : p.size ≤ 1000000000) :
    Calls Tryz.prog 33 #[.string s, .string p, .bool part] w (ZzD T part p.data.toList w (parse s.data.toList)) := by
  have hcall := parse_all s w hE.z hs
  have HE := Lib.hid hE
  rcases hM : parse s.data.toList with _ | ⟨M, N⟩
  · rw [hM] at hcall
    have HCALL := Lib.hid hcall
    clear hcall hM hE
    go_enter Tryz.func33, Tryz.ntmps33
    go_wp2_with fail
    refine HCALL.out.mono ?_
    rintro e w1 ⟨⟨dT, dx, rfl⟩, hb1⟩
    have HB1 := Lib.hid hb1
    clear hb1
    go_wp2_with fail
    exact ⟨rfl, HB1.out, _, _, rfl⟩
  rw [hM] at hcall
  obtain ⟨hgood, hnames, h30, hML⟩ := parse_goodD hM (by rw [size_data]; exact hs)
  have HCALL := Lib.hid hcall
  have HNM := Lib.hid (show N.length = (M.filter (·.isParam)).length by rw [hnames]; simp)
  have HGD := Lib.hid hgood
  clear hcall hnames hM hgood hE
  go_enter Tryz.func33, Tryz.ntmps33
  go_wp2_with fail
  refine HCALL.out.mono ?_
  rintro e w1 ⟨gs, cvs, qo, cap, pv, st, pl, rfl, hin, hnod, hemp, hrow, hown, hb1⟩
  obtain ⟨ao, ncap, rfl⟩ := own_form hown
  have HIN := Lib.hid hin
  have HEMP := Lib.hid hemp
  have HROW := Lib.hid hrow
  have HB1 := Lib.hid hb1
  clear hin hemp hrow hown hb1 HCALL
  go_wp2_with fail
  obtain ⟨W2, hW2⟩ : ∃ W2, W2 = ((w1.alloc (Obj.cells #[Value.slice qo M.length cap, Value.slice ao N.length ncap, Value.int IntKind.i64 st, Value.int IntKind.i64 pl] 79)).alloc (Obj.cells (Array.replicate 30 (Value.string ⟨#[]⟩)) 81)) := ⟨_, rfl⟩
  have hW2' : W2 = _ := hW2
  have hb2 : Below w1.heap.size w1 W2 := by rw [hW2]; exact ((Below.refl _ _).alloc (Nat.le_refl _) _).alloc (by simp) _
  have hsz2 : W2.heap.size = w1.heap.size + 1 + 1 := by rw [hW2]; simp
  have hQ : W2.cell? ⟨w1.heap.size, 0, none⟩ = some (.slice qo M.length cap) := by rw [hW2]; simp [cell_alloc, objCell]
  have hQ1 : W2.cell? ⟨w1.heap.size, 1, none⟩ = some (.slice ao N.length ncap) := by rw [hW2]; simp [cell_alloc, objCell]
  have hAA : W2.heap[w1.heap.size + 1]? = some (.cells (Array.replicate 30 (Value.string ⟨#[]⟩)) 81 (0, 0)) := by
    rw [hW2]
    show (Array.push _ _)[_]? = _
    rw [Array.getElem?_push, if_pos (by simp)]
  have hgs : ∀ g ∈ gs, g < w1.heap.size := fun g hg => HIN.out.lt hg
  have hcall := match_all T p part w1.heap.size cap (w1.heap.size + 1) w.heap.size qo M gs cvs w1 W2 hp hML (HE.out.below HB1.out) hb2 (by omega) hQ (fun i g h => by
      obtain ⟨r, h1, h2, h3⟩ := HROW.out i g h
      exact ⟨r, h1, by omega, (hb2.cell (p := ⟨r, i, none⟩) h2).trans h3⟩) (HIN.out.below hb2) HEMP.out HGD.out (by rw [← HNM.out]; exact h30)
    ⟨Touch.refl _ _, _, hAA, by simp, fun i v h => by simp at h⟩ (fun hm => by have := hgs _ hm; omega)
  have HC2 := Lib.hid hcall
  have HB2 := Lib.hid (HB1.out.trans (hb2.mono HB1.out.size))
  have HSZ := Lib.hid hsz2
  obtain ⟨res, hres⟩ : ∃ res, res = matchGo (chk T) part M p.data.toList [] := ⟨_, rfl⟩
  have HRES := Lib.hid hres
  rw [← hres] at HC2
  clear hcall hAA hb2 hsz2 hgs hres hW2'
  rw [show (#[Value.string { data := #[] }, Value.string { data := #[] }, Value.string { data := #[] }, Value.string { data := #[] }, Value.string { data := #[] }, Value.string { data := #[] }, Value.string { data := #[] }, Value.string { data := #[] }, Value.string { data := #[] }, Value.string { data := #[] }, Value.string { data := #[] }, Value.string { data := #[] }, Value.string { data := #[] }, Value.string { data := #[] }, Value.string { data := #[] }, Value.string { data := #[] }, Value.string { data := #[] }, Value.string { data := #[] }, Value.string { data := #[] }, Value.string { data := #[] }, Value.string { data := #[] }, Value.string { data := #[] }, Value.string { data := #[] }, Value.string { data := #[] }, Value.string { data := #[] }, Value.string { data := #[] }, Value.string { data := #[] }, Value.string { data := #[] }, Value.string { data := #[] }, Value.string { data := #[] }] : Array Value) = Array.replicate 30 (Value.string ⟨#[]⟩) from rfl, ← hW2]
  clear hW2
  refine HC2.out.mono ?_
  rintro e w3 ⟨rfl, ht, ha⟩
  have hb3 : Below w.heap.size w w3 := by
    have h1 := HB1.out.size
    have h2 := HSZ.out
    exact HB2.out.trans (touch_to_below ht (fun g hg => by simp at hg; omega) (by omega))
  cases hr : res with
  | none =>
    have HN := Lib.hid (HRES.out.symm.trans hr)
    rw [show (none : Option (List Bs)).isSome = false from rfl]
    go_wp2_with fail
    go_ret2
    refine ⟨hb3, _, _, rfl, ?_⟩
    rw [HN.out]
    exact ⟨rfl, rfl⟩
  | some vs =>
    rw [show (some vs : Option (List Bs)).isSome = true from rfl]
    have HN := Lib.hid (HRES.out.symm.trans hr)
    obtain ⟨ht4, cur, hcur, hcs, hcv⟩ := ha vs hr
    have hvl : vs.length = N.length := by
      have h1 := matchK_count _ _ _ _ _ _ (HRES.out.symm.trans hr)
      rw [HNM.out]; simpa using h1
    have hq3 : w3.cell? ⟨w1.heap.size, 1, none⟩ = some (.slice ao N.length ncap) := touch_cell ht4 (by simp) hQ1
    have hq4 : ∀ o, (w3.alloc o).cell? ⟨w1.heap.size, 1, none⟩ = some (.slice ao N.length ncap) := fun o => by rw [cell_alloc, if_neg (by have := cell_lt hq3; simp at this; omega)]; exact hq3
    obtain ⟨i9, hi9, hz90, hz91, hz92⟩ := info_parts info9
    have HCV := Lib.hid hcv
    have HCUR := Lib.hid hcur
    have HVL := Lib.hid hvl
    have HB3 := Lib.hid hb3
    have e1 : (N.length : Int) ≤ 30 := by omega
    have hszz : w.heap.size ≤ w3.heap.size := hb3.size
    clear hcv hcur hvl hb3 ht ht4 ha hr HC2
    have hown0 : (w3.alloc (.cells #[] 9)).ownsRow w.heap.size 9 1 (.slice (some ⟨w3.heap.size, 0, none⟩) 0 0) 0 [] :=
      ⟨rfl, .inr ⟨w3.heap.size, 0, #[], rfl, hszz, heap_alloc_new _ _, Nat.le_refl _, Nat.zero_le _, rfl, rfl⟩⟩
    have HOWN0 := Lib.hid hown0
    have hnews : ∀ (j : Nat) (u : Value), (svals vs)[j]? = some u → (w3.alloc (.cells #[] 9)).cell? ((⟨w1.heap.size + 1, 0, none⟩ : Addr).add j) = some u := fun j u hu => by
      unfold svals at hu
      rw [List.getElem?_map] at hu
      obtain ⟨x, hx, rfl⟩ := Option.map_eq_some_iff.1 hu
      rw [add_cell, Nat.zero_add, cell_alloc, if_neg (by have := lt_of_obj HCUR.out; omega)]
      exact obj_cell HCUR.out (HCV.out j x hx)
    have HNEWS := Lib.hid hnews
    clear hown0 hnews
    go_wp2_with (at_builtin; refine wpList_append_own _ rfl (.tmp 17) (.tmp 21) 22 rfl w.heap.size 9 i9 (.string ⟨#[]⟩) 1 16 Tryz.underlying22 hi9 hz90 hz91 hz92 rfl (by decide) (.slice (some ⟨w3.heap.size, 0, none⟩) 0 0) 0 [] (by rfl) HOWN0.out ⟨w1.heap.size + 1, 0, none⟩ N.length 30 (svals vs) (by rfl) (by rw [← HVL.out]; simp [svals]) HNEWS.out (svals_one _) (by simp [maxLen]; omega) (by omega) (by simp; omega) ?_; intro v' w4 hown4 hgrow4 hnil4)
    go_ret2
    refine ⟨?_, v', true, rfl, ?_⟩
    · exact (HB3.out.alloc hszz (.cells #[] 9)).grown hgrow4 (by simp; omega) (fun k hk => by have : w3.heap.size = k := Option.some.inj hk; omega)
    · rw [HN.out]
      refine ⟨rfl, ?_⟩
      rw [HVL.out]
      rw [Nat.zero_add, List.nil_append] at hown4
      exact hown4

theorem catch_dies (a b c : Addr) (dT : TypeId) (dx v1 v2 v3 : Value) (w : World) (h1 : w.cell? a = some v1) (z1 : w.frozen? a = false)
    (h2 : (w.setCell a (.slice none 0 0)).cell? b = some v2) (z2 : (w.setCell a (.slice none 0 0)).frozen? b = false)
    (h3 : ((w.setCell a (.slice none 0 0)).setCell b (.bool false)).cell? c = some v3) (z3 : ((w.setCell a (.slice none 0 0)).setCell b (.bool false)).frozen? c = false) :
    CallsD Tryz.prog 32 #[.pointer (some a), .pointer (some b), .pointer (some c)] (.panicking [{ v := .iface dT dx, recovered := false }]) w fun e u' w' =>
      e = .returned (.tuple #[]) ∧ u' = .panicking [{ v := .iface dT dx, recovered := true }] ∧ w' = ((w.setCell a (.slice none 0 0)).setCell b (.bool false)).setCell c (.bool false) := by
  refine callsD_of_wpS Tryz.func32 rfl fun c₀ cs hu => ?_
  apply wpS_seq
  apply wpS_region
  simp [wpOpsS, go_sem, recoverD, hu, Tryz.ntmps32, Exit.thenS]
  refine wpS_cond (t := true) (by simp [Act.eval, Array.replicate]) ?_
  simp only [if_true]
  apply wpS_region
  simp [wpOpsS, go_sem, h1, z1, h2, z2, h3, z3, bodyPostS, results, Tryz.results32]

set_option maxHeartbeats 4000000 in
set_option maxRecDepth 100000 in
theorem values_all (T : Nat → Nat × Nat) (s p : ByteArray) (part : Bool) (w : World) (hE : EnvA T w) (hs : s.size ≤ 1000000) (hp : p.size ≤ 1000000000) :
    Calls Tryz.prog 18 #[.string s, .string p, .bool part] w (ValD T part p.data.toList w (parse s.data.toList)) := by
  have hmf : ∀ (fn : Fn) (first cap : Array Value) (w : World), (Instr.makeFunc fn first cap).run Tryz.prog w = .ok (.func fn first cap) w := fun _ _ _ _ => rfl
  obtain ⟨W1, hW1⟩ : ∃ W1, W1 = (((w.alloc (Obj.cells #[Value.slice none 0 0] 22)).alloc (Obj.cells #[Value.bool false] 4)).alloc (Obj.cells #[Value.bool false] 4)) := ⟨_, rfl⟩
  have hbW : Below w.heap.size w W1 := by rw [hW1]; exact (((Below.refl _ _).alloc (Nat.le_refl _) _).alloc (by simp) _).alloc (by simp; omega) _
  have hsW : W1.heap.size = w.heap.size + 1 + 1 + 1 := by rw [hW1]; simp
  have s1 : (w.alloc (Obj.cells #[Value.slice none 0 0] 22)).heap.size = w.heap.size + 1 := by simp
  have s2 : ((w.alloc (Obj.cells #[Value.slice none 0 0] 22)).alloc (Obj.cells #[Value.bool false] 4)).heap.size = w.heap.size + 1 + 1 := by simp
  have k0 : W1.heap[w.heap.size]? = some (.cells #[.slice none 0 0] 22 (0, 0)) := by
    rw [hW1, Below.heap_alloc _ _ _ (by rw [s2]; omega), Below.heap_alloc _ _ _ (by rw [s1]; omega), heap_alloc_new]
  have k1 : W1.heap[w.heap.size + 1]? = some (.cells #[.bool false] 4 (0, 0)) := by
    rw [hW1, Below.heap_alloc _ _ _ (by rw [s2]; omega), ← s1, heap_alloc_new]
  have k2 : W1.heap[w.heap.size + 1 + 1]? = some (.cells #[.bool false] 4 (0, 0)) := by
    rw [hW1, ← s2, heap_alloc_new]
  clear s1 s2
  have hcall := zzmatch_all T s p part W1 (hE.below hbW) hs hp
  rcases hM : parse s.data.toList with _ | ⟨M, N⟩
  · rw [hM] at hcall
    have HCALL := Lib.hid hcall
    have HBW := Lib.hid hbW
    have HSW := Lib.hid hsW
    have HW1 := Lib.hid hW1
    clear hcall hbW hsW hW1 hM hE
    go_enter_defers Tryz.func18, Tryz.ntmps18
    go_wp2_with fail
    rw [← HW1.out]
    refine HCALL.out.mono ?_
    rintro e w2 ⟨hb2, dT, dx, rfl⟩
    have q0 := (hb2.block _ (by have := HSW.out; omega)).trans k0
    have q1 := (hb2.block _ (by have := HSW.out; omega)).trans k1
    have q2 := (hb2.block _ (by have := HSW.out; omega)).trans k2
    have n1 : w.heap.size ≠ w.heap.size + 1 := by omega
    have n2 : w.heap.size ≠ w.heap.size + 1 + 1 := by omega
    have n3 : w.heap.size + 1 ≠ w.heap.size + 1 + 1 := by omega
    have HB2 := Lib.hid (HBW.out.trans (hb2.mono HBW.out.size))
    have r1 := (Below.heap_setCell w2 ⟨w.heap.size, 0, none⟩ (.slice none 0 0) (w.heap.size + 1) (Ne.symm n1)).trans q1
    have r2 := (Below.heap_setCell (w2.setCell ⟨w.heap.size, 0, none⟩ (.slice none 0 0)) ⟨w.heap.size + 1, 0, none⟩ (.bool false) (w.heap.size + 1 + 1) (Ne.symm n3)).trans ((Below.heap_setCell w2 ⟨w.heap.size, 0, none⟩ (.slice none 0 0) (w.heap.size + 1 + 1) (Ne.symm n2)).trans q2)
    have HCD := Lib.hid (catch_dies ⟨w.heap.size, 0, none⟩ ⟨w.heap.size + 1, 0, none⟩ ⟨w.heap.size + 1 + 1, 0, none⟩ dT dx _ _ _ w2 (obj_cell (i := 0) q0 rfl) (obj_free (i := 0) q0) (obj_cell (i := 0) r1 rfl) (obj_free (i := 0) r1) (obj_cell (i := 0) r2 rfl) (obj_free (i := 0) r2))
    obtain ⟨X, hX⟩ : ∃ X, X = ((w2.setCell ⟨w.heap.size, 0, none⟩ (.slice none 0 0)).setCell ⟨w.heap.size + 1, 0, none⟩ (.bool false)).setCell ⟨w.heap.size + 1 + 1, 0, none⟩ (.bool false) := ⟨_, rfl⟩
    have y0 : X.heap[w.heap.size]? = some (.cells #[.slice none 0 0] 22 (0, 0)) := by
      rw [hX]
      exact (Below.heap_setCell _ ⟨w.heap.size + 1 + 1, 0, none⟩ _ _ n2).trans ((Below.heap_setCell _ ⟨w.heap.size + 1, 0, none⟩ _ _ n1).trans (obj_set (i := 0) _ q0))
    have y1 : X.heap[w.heap.size + 1]? = some (.cells #[.bool false] 4 (0, 0)) := by
      rw [hX]
      exact (Below.heap_setCell _ ⟨w.heap.size + 1 + 1, 0, none⟩ _ _ n3).trans (obj_set (i := 0) _ r1)
    have y2 : X.heap[w.heap.size + 1 + 1]? = some (.cells #[.bool false] 4 (0, 0)) := by
      rw [hX]
      exact obj_set (i := 0) _ r2
    have x0 := obj_cell (i := 0) y0 rfl
    have x1 := obj_cell (i := 0) y1 rfl
    have x2 := obj_cell (i := 0) y2 rfl
    have hbX : Below w.heap.size w X := by
      rw [hX]
      exact ((HB2.out.setCell (p := ⟨w.heap.size, 0, none⟩) (Nat.le_refl _) _).setCell (p := ⟨w.heap.size + 1, 0, none⟩) (Nat.le_succ _) _).setCell (p := ⟨w.heap.size + 1 + 1, 0, none⟩) (by show w.heap.size ≤ w.heap.size + 1 + 1; omega) _
    have HBX := Lib.hid hbX
    rw [← hX] at HCD
    clear hX hbX hb2 q0 q1 q2 r1 r2 k0 k1 k2 y0 y1 y2 n1 n2 n3 HCALL HW1
    go_wp2_with fail
    refine leaves_cons (f := 32) (args := #[.pointer (some ⟨w.heap.size, 0, none⟩), .pointer (some ⟨w.heap.size + 1, 0, none⟩), .pointer (some ⟨w.heap.size + 1 + 1, 0, none⟩)]) (by simp) (by simp [go_sem]) ?_
    refine HCD.out.mono ?_
    rintro e u' X' ⟨rfl, rfl, rfl⟩
    have HR : ValD T part p.data.toList w none (.returned (.tuple #[.slice none 0 0, .bool false, .bool false])) X' := ⟨HBX.out, _, _, _, rfl, rfl, rfl, rfl⟩
    obtain ⟨R, hRd⟩ : ∃ R : Ending → World → Prop, R = ValD T part p.data.toList w none := ⟨_, rfl⟩
    rw [← hRd] at HR ⊢
    clear hRd HBX HB2
    refine ⟨_, ?_, HR⟩
    rw [results_cell3 (p := 6) (u := 7) (q := 8) (a := 22) (b := 4) (c := 4) Tryz.results18]
    simp only [Array.getD, List.size_toArray, List.length_cons, List.length_nil]
    simp [asAddr, Result.andThen, go_sem, x0, x1, x2]
  rw [hM] at hcall
  have HCALL := Lib.hid hcall
  have HBW := Lib.hid hbW
  have HSW := Lib.hid hsW
  have HW1 := Lib.hid hW1
  clear hcall hbW hsW hW1 hM hE
  go_enter_defers Tryz.func18, Tryz.ntmps18
  go_wp2_with fail
  rw [← HW1.out]
  refine HCALL.out.mono ?_
  rintro e w2 ⟨hb2, v, is, rfl, hm⟩
  have hv : ∃ ao n cap, v = .slice ao n cap := by
    unfold Matched at hm
    split at hm
    · obtain ⟨ao, cap, h⟩ := own_form hm.2
      exact ⟨ao, _, cap, h⟩
    · exact ⟨none, 0, 0, hm.2⟩
  obtain ⟨ao, n, cap, rfl⟩ := hv
  have q0 := (hb2.block _ (by have := HSW.out; omega)).trans k0
  have q1 := (hb2.block _ (by have := HSW.out; omega)).trans k1
  have q2 := (hb2.block _ (by have := HSW.out; omega)).trans k2
  have c0 := obj_cell (i := 0) q0 rfl
  have c1 := obj_cell (i := 0) q1 rfl
  have c2 := obj_cell (i := 0) q2 rfl
  have f0 := obj_free (i := 0) q0
  have f1 := obj_free (i := 0) q1
  have f2 := obj_free (i := 0) q2
  have HB2 := Lib.hid hb2
  have HM := Lib.hid hm
  have Q0 := Lib.hid q0
  have Q1 := Lib.hid q1
  have Q2 := Lib.hid q2
  clear hb2 hm q0 q1 q2 k0 k1 k2 HCALL
  go_wp2_with fail
  go_region
  rw [show (((((w2.setCell ⟨w.heap.size, 0, none⟩ (.slice ao n cap)).setCell ⟨w.heap.size + 1, 0, none⟩ (.bool is)).setCell ⟨w.heap.size, 0, none⟩ (.slice ao n cap)).setCell ⟨w.heap.size + 1, 0, none⟩ (.bool is)).setCell ⟨w.heap.size + 1 + 1, 0, none⟩ (.bool true)).drew = stored w2 w.heap.size (w.heap.size + 1) (w.heap.size + 1 + 1) (.slice ao n cap) (.bool is) (.bool true) from rfl]
  obtain ⟨X, hX⟩ : ∃ X, X = stored w2 w.heap.size (w.heap.size + 1) (w.heap.size + 1 + 1) (.slice ao n cap) (.bool is) (.bool true) := ⟨_, rfl⟩
  rw [← hX]
  have HX := Lib.hid hX
  clear hX
  go_wp2_with fail
  refine leaves_cons (f := 32) (args := #[.pointer (some ⟨w.heap.size, 0, none⟩), .pointer (some ⟨w.heap.size + 1, 0, none⟩), .pointer (some ⟨w.heap.size + 1 + 1, 0, none⟩)]) (by simp) (by simp [go_sem]) ?_
  refine (catch_idle _ _ _ _).mono ?_
  rintro e u' X ⟨rfl, rfl, rfl⟩
  have n1 : w.heap.size ≠ w.heap.size + 1 := by omega
  have n2 : w.heap.size ≠ w.heap.size + 1 + 1 := by omega
  have n3 : w.heap.size + 1 ≠ w.heap.size + 1 + 1 := by omega
  have hx0 : X.heap[w.heap.size]? = some (.cells #[.slice ao n cap] 22 (0, 0)) := by rw [HX.out]; exact stored_a n1 n2 n3 Q0.out
  have hx1 : X.heap[w.heap.size + 1]? = some (.cells #[.bool is] 4 (0, 0)) := by rw [HX.out]; exact stored_b n1 n2 n3 Q1.out
  have hx2 : X.heap[w.heap.size + 1 + 1]? = some (.cells #[.bool true] 4 (0, 0)) := by rw [HX.out]; exact stored_c n1 n2 n3 Q2.out
  have x0 := obj_cell (i := 0) hx0 rfl
  have x1 := obj_cell (i := 0) hx1 rfl
  have x2 := obj_cell (i := 0) hx2 rfl
  have hkeep : ∀ k, w.heap.size + 1 + 1 < k → X.heap[k]? = w2.heap[k]? := fun k hk => by
    rw [HX.out]
    exact stored_keep k (by omega) (by omega) (by omega)
  have hbX : Below w.heap.size w X := by
    rw [HX.out]
    exact stored_below (HBW.out.trans (HB2.out.mono HBW.out.size)) (Nat.le_refl _) (by omega) (by omega)
  have hmX : Matched w (matchGo (chk T) part M p.data.toList []) X (.slice ao n cap) is := by
    have h1 := HM.out
    unfold Matched at h1 ⊢
    split at h1
    · exact ⟨h1.1, own_base (own_keep h1.2 (fun k hk => hkeep k (by have := (h1.2.lt k hk).1; have := HSW.out; omega))) (by have := HSW.out; omega)⟩
    · exact h1
  have HMX := Lib.hid hmX
  have HBX := Lib.hid hbX
  clear hkeep hbX hmX hx0 hx1 hx2 n1 n2 n3
  obtain ⟨R, hRd⟩ : ∃ R : Ending → World → Prop, R = ValD T part p.data.toList w (some (M, N)) := ⟨_, rfl⟩
  have hR : R (.returned (.tuple #[.slice ao n cap, .bool is, .bool true])) X := by rw [hRd]; exact ⟨HBX.out, _, _, _, rfl, rfl, HMX.out⟩
  rw [← hRd]
  clear hRd HBX HMX HM HX Q0 Q1 Q2 HB2 HBW HSW HW1
  have HR := Lib.hid hR
  clear hR
  show Leaves Tryz.prog Tryz.f18 _ R [] .returning X
  refine ⟨_, ?_, HR.out⟩
  rw [results_cell3 (p := 6) (u := 7) (q := 8) (a := 22) (b := 4) (c := 4) Tryz.results18]
  simp only [Array.getD, List.size_toArray, List.length_cons, List.length_nil]
  simp [asAddr, Result.andThen, go_sem, x0, x1, x2]
end Go.Proofs.YtiebedcldbmlhaaGreatDoor
namespace Go.Proofs.YtiebedcldbmlhaaGreatDoor
open Go.RowKit
set_option linter.unusedVariables false

theorem any_drop {s : ByteArray} {k : Nat} (hk : k < s.size) (f : UInt8 → Bool) : (s.data.toList.drop k).any f = (f (s[k]'hk) || (s.data.toList.drop (k + 1)).any f) := by
  rw [List.drop_eq_getElem_cons (by simpa using hk), List.any_cons]
  rfl
theorem all_drop {s : ByteArray} {k : Nat} (hk : k < s.size) (f : UInt8 → Bool) : (s.data.toList.drop k).all f = (f (s[k]'hk) && (s.data.toList.drop (k + 1)).all f) := by
  rw [List.drop_eq_getElem_cons (by simpa using hk), List.all_cons]
  rfl
theorem drop_all (s : ByteArray) : s.data.toList.drop s.size = [] := List.drop_of_length_le (by rw [size_data]; exact Nat.le_refl _)

def holdsB (l : Bs) (c : UInt8) : Bool := l.any (· == c)
set_option maxHeartbeats 1000000 in
theorem holds_any (s : ByteArray) (c : UInt8) (w : World) (hs : s.size ≤ 140737488351232) :
    Calls Tryz.prog 21 #[.string s, .int .u8 (c.toNat : Int)] w fun e w' => e = .returned (.bool (holdsB s.data.toList c)) ∧ w = w' := by
  go_enter Tryz.func21, Tryz.ntmps21
  go_wp2
  go_loop [8] (fun i => ∃ k : Nat, k ≤ s.size ∧ i = .int .i64 k ∧ holdsB s.data.toList c = (s.data.toList.drop k).any (· == c)) (fun i => s.size - (intOf i).toNat)
  case atStart => exact ⟨0, Nat.zero_le _, rfl, by rw [List.drop_zero]; rfl⟩
  case round =>
    obtain ⟨k, hk, rfl, hall⟩ := hrel
    have HA := Lib.hid hall
    clear hall
    by_cases hlt : k < s.size
    · have HD := Lib.hid (any_drop hlt (· == c))
      cases he : (s[k]'hlt) == c with
      | true =>
        have hq : (((s[k]'hlt).toNat : Int) == (c.toNat : Int)) = true := by
          have := eq_of_beq he
          rw [this]; simp
        have HE := Lib.hid he
        clear he
        go_wp2
        go_ret
        exact ⟨ret_bool (by rw [HA.out, HD.out, HE.out]; rfl), rfl⟩
      | false =>
        have hq : (((s[k]'hlt).toNat : Int) == (c.toNat : Int)) = false := by
          rw [beq_eq_false_iff_ne] at he ⊢
          intro h
          exact he (UInt8.toNat_inj.1 (by omega))
        have HE := Lib.hid he
        clear he
        go_wp2
        go_round
        case rel => exact ⟨k + 1, by omega, by go_num, by rw [HA.out, HD.out, HE.out]; rfl⟩
        case measure => simp [intOf]; omega
    · obtain rfl : k = s.size := by omega
      go_wp2
      go_ret
      exact ⟨ret_bool (by rw [HA.out, drop_all]; rfl), rfl⟩

def shortB (ss : List ByteArray) : Bool := ss.all (fun s => decide (s.size ≤ 2000)) && decide (ss.length ≤ 60)
def StrCells (w : World) (b off : Nat) (ss : List ByteArray) : Prop := ∀ i, i < ss.length → w.cell? ⟨b, off + i, none⟩ = some (.string (ss.getD i ByteArray.empty))
theorem shortB_no {ss : List ByteArray} {k : Nat} (hk : k < ss.length) (h : 2000 < (ss.getD k ByteArray.empty).size) : shortB ss = false := by
  unfold shortB
  rw [Bool.and_eq_false_iff]; left
  rw [List.all_eq_false]
  refine ⟨ss[k], List.getElem_mem _, ?_⟩
  simpa [List.getD, hk] using h
theorem shortB_yes {ss : List ByteArray} (h : ∀ i, i < ss.length → (ss.getD i ByteArray.empty).size ≤ 2000) : shortB ss = decide (ss.length ≤ 60) := by
  unfold shortB
  rw [List.all_eq_true.2, Bool.true_and]
  intro s hs
  obtain ⟨i, hi, rfl⟩ := List.getElem_of_mem hs
  have := h i hi
  simpa [List.getD, hi] using this

set_option maxHeartbeats 400000 in
theorem short_some (b off cap : Nat) (ss : List ByteArray) (w : World) (hl : ss.length ≤ maxLen) (hc : StrCells w b off ss) :
    Calls Tryz.prog 22 #[.slice (some ⟨b, off, none⟩) ss.length cap] w fun e w' => e = .returned (.bool (shortB ss)) ∧ w = w' := by
  unfold maxLen at hl
  have HC := Lib.hid hc
  clear hc
  go_enter Tryz.func22, Tryz.ntmps22
  go_wp2
  go_loop [7] (fun i => ∃ k : Nat, k ≤ ss.length ∧ i = .int .i64 k ∧ (∀ j, j < k → (ss.getD j ByteArray.empty).size ≤ 2000)) (fun i => ss.length - (intOf i).toNat)
  case atStart => exact ⟨0, Nat.zero_le _, rfl, fun j h => absurd h (Nat.not_lt_zero _)⟩
  case round =>
    obtain ⟨k, hk, rfl, hall⟩ := hrel
    have HA := Lib.hid hall
    clear hall
    by_cases hlt : k < ss.length
    · have hck := HC.out k hlt
      obtain ⟨s, hs⟩ : ∃ s, s = ss.getD k ByteArray.empty := ⟨_, rfl⟩
      rw [← hs] at hck
      have HS := Lib.hid hs
      clear hs
      go_wp2
      · go_ret
        exact ⟨ret_bool (shortB_no hlt (by rw [← HS.out]; omega)).symm, rfl⟩
      · go_round
        case rel => exact ⟨k + 1, by omega, by go_num, fun j hj => by
            rcases Nat.lt_or_ge j k with h | h
            · exact HA.out j h
            · obtain rfl : j = k := by omega
              rw [← HS.out]; omega⟩
        case measure => simp [intOf]; omega
    · obtain rfl : k = ss.length := by omega
      go_wp2
      go_ret
      exact ⟨ret_bool (by rw [shortB_yes HA.out]; exact decide_eq_decide.2 (by omega)), rfl⟩

/-- word, as the law's function has it. -/
def wordS (l : Bs) : Bool := l.all wordB && !l.isEmpty

theorem bits_nat : ∀ n : Fin 256, Go.bits BinOp.or IntKind.u8 ((n.val : Nat) : Int) 32 = (((UInt8.ofNat n.val) ||| 32).toNat : Int) := by decide +kernel
theorem bits_32 (c : UInt8) : Go.bits BinOp.or IntKind.u8 (c.toNat : Int) 32 = ((c ||| 32).toNat : Int) := by
  have := bits_nat ⟨c.toNat, c.toNat_lt⟩
  simpa using this
theorem word_no {c : UInt8} (h : (((c ||| 32).toNat : Int) < 97 ∨ 122 < ((c ||| 32).toNat : Int)) ∧ ((c.toNat : Int) < 48 ∨ 57 < (c.toNat : Int))) : wordB c = false := by
  unfold wordB
  have h1 : (decide ((c ||| 32) < 97) || decide (122 < (c ||| 32))) = true := by
    rw [Bool.or_eq_true, decide_eq_true_iff, decide_eq_true_iff, UInt8.lt_iff_toNat_lt, UInt8.lt_iff_toNat_lt]
    have := h.1
    simp only [show (97 : UInt8).toNat = 97 from rfl, show (122 : UInt8).toNat = 122 from rfl]
    omega
  have h2 : (decide (c < 48) || decide (57 < c)) = true := by
    rw [Bool.or_eq_true, decide_eq_true_iff, decide_eq_true_iff, UInt8.lt_iff_toNat_lt, UInt8.lt_iff_toNat_lt]
    have := h.2
    simp only [show (48 : UInt8).toNat = 48 from rfl, show (57 : UInt8).toNat = 57 from rfl]
    omega
  rw [h1, h2]; rfl
theorem word_yes {c : UInt8} (h : ¬ ((((c ||| 32).toNat : Int) < 97 ∨ 122 < ((c ||| 32).toNat : Int)) ∧ ((c.toNat : Int) < 48 ∨ 57 < (c.toNat : Int)))) : wordB c = true := by
  cases hw : wordB c with
  | true => rfl
  | false =>
    exfalso
    apply h
    unfold wordB at hw
    rw [Bool.not_eq_false', Bool.and_eq_true, Bool.or_eq_true, Bool.or_eq_true, decide_eq_true_iff, decide_eq_true_iff, decide_eq_true_iff, decide_eq_true_iff, UInt8.lt_iff_toNat_lt, UInt8.lt_iff_toNat_lt, UInt8.lt_iff_toNat_lt, UInt8.lt_iff_toNat_lt] at hw
    simp only [show (97 : UInt8).toNat = 97 from rfl, show (122 : UInt8).toNat = 122 from rfl, show (48 : UInt8).toNat = 48 from rfl, show (57 : UInt8).toNat = 57 from rfl] at hw
    omega
theorem isEmpty_size (s : ByteArray) : s.data.toList.isEmpty = decide (s.size = 0) := by
  rw [Bool.eq_iff_iff, List.isEmpty_iff, decide_eq_true_iff, ← size_data, List.length_eq_zero_iff]

set_option maxHeartbeats 1000000 in
theorem word_any (s : ByteArray) (w : World) (hs : s.size ≤ 140737488351232) :
    Calls Tryz.prog 20 #[.string s] w fun e w' => e = .returned (.bool (wordS s.data.toList)) ∧ w = w' := by
  go_enter Tryz.func20, Tryz.ntmps20
  go_wp2
  go_loop [7] (fun i => ∃ k : Nat, k ≤ s.size ∧ i = .int .i64 k ∧ s.data.toList.all wordB = (s.data.toList.drop k).all wordB) (fun i => s.size - (intOf i).toNat)
  case atStart => exact ⟨0, Nat.zero_le _, rfl, by rw [List.drop_zero]⟩
  case round =>
    obtain ⟨k, hk, rfl, hall⟩ := hrel
    have HA := Lib.hid hall
    clear hall
    by_cases hlt : k < s.size
    · have HD := Lib.hid (all_drop hlt wordB)
      have hb := bits_32 (s[k]'hlt)
      obtain ⟨y, hy⟩ : ∃ y : Nat, y = ((s[k]'hlt) ||| 32).toNat := ⟨_, rfl⟩
      rw [← hy] at hb
      have HY := Lib.hid hy
      clear hy
      by_cases hc : (((y : Nat) : Int) < 97 ∨ 122 < ((y : Nat) : Int)) ∧ (((s[k]'hlt).toNat : Int) < 48 ∨ 57 < ((s[k]'hlt).toNat : Int))
      · have HW := Lib.hid (word_no (c := s[k]'hlt) (by rw [← HY.out]; exact hc))
        obtain ⟨hc1, hc2⟩ := hc
        go_wp2
        all_goals first
          | (exfalso; omega)
          | (go_ret; exact ⟨ret_bool (by unfold wordS; rw [HA.out, HD.out, HW.out]; rfl), rfl⟩)
      · have HW := Lib.hid (word_yes (c := s[k]'hlt) (by rw [← HY.out]; exact hc))
        go_wp2
        all_goals first
          | (exfalso; omega)
          | (go_round
             case rel => exact ⟨k + 1, by omega, by go_num, by rw [HA.out, HD.out, HW.out]; rfl⟩
             case measure => simp [intOf]; omega)
    · obtain rfl : k = s.size := by omega
      go_wp2
      go_ret
      refine ⟨ret_bool ?_, rfl⟩
      unfold wordS
      rw [HA.out, drop_all, Lib.toList_data]
      rfl
end Go.Proofs.YtiebedcldbmlhaaGreatDoor
