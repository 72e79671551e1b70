/-
  ZzMatch and Values, of a slash and one parameter with one constraint, at a slash and a value without a slash. Conditions: of a size that addresses allow; what the constraint answers is given.
-/
import Derived.Test.YtiebedcldbmlhaaGreatDoorCG
import Derived.Test.YtiebedcldbmlhaaGreatDoorCA
namespace Go.Proofs.YtiebedcldbmlhaaGreatDoor
open Go.RowKit
set_option linter.unusedVariables false

/-- A pattern of a slash and one parameter with one constraint. -/
structure ConPat (s : ByteArray) (nm : Bs) (con : Con) : Prop where
  size : s.size ≤ 1000000
  pos : 0 < s.size
  slash : s.data.toList.take 1 = [47]
  ex : ∃ (p : ByteArray) (a z : Nat) (c : Bs), paramPos s.data.toList = some 1 ∧ s.data.toList.drop 1 = p.data.toList ∧ paramPos p.data.toList = some 0 ∧ paramEnd p.data.toList + 1 = p.size ∧ stOf p.data.toList = some a ∧ enOf p.data.toList = some z ∧ a + 1 ≤ z ∧ p.data.toList.head? = some 58 ∧
    splitNE ((p.data.toList.drop (a + 1)).take (z - (a + 1))) 59 = [c] ∧ OneOf c con ∧ unesc (trimmed (p.data.toList.take a)) = nm ∧ p.data.toList[paramEnd p.data.toList]? ≠ some 63
/-- What a constraint answers at a value, wherever it lies. -/
def CheckOK (con : Con) (v : ByteArray) (X : Bool) : Prop :=
  ∀ (kc base : Nat) (dd : Value) (wx : World), EnvC wx → wx.heap[kc]? = some (.cells #[.int .i16 con.id, dd] 66 (0, 0)) → wx.ownsRow base 9 1 dd con.data.length (svals con.data) →
    Calls Tryz.prog 34 #[.pointer (some ⟨kc, 0, none⟩), .string v] wx fun e w' => e = .returned (.bool X) ∧ Below wx.heap.size wx w'
/-- The answer at a value: the value alone, or none. -/
def ansOf (X : Bool) (v : Bs) : Option (List Bs) := if X then some [v] else none
theorem conPat_meta (nm : Bs) (con : Con) : metaFwd (cmpBack (markLast [cseg [47], { conSeg nm con with last := false }])).1 = some [cseg [47], conSeg nm con] := by
  simp [markLast, cmpBack, metaFwd, cseg, conSeg, unesc]
theorem conPat_go {s p : ByteArray} {nm : Bs} {con : Con} {a z : Nat} {c : Bs} (h0 : 0 < s.size) (hsl : s.data.toList.take 1 = [47]) (h1 : paramPos s.data.toList = some 1) (h2 : s.data.toList.drop 1 = p.data.toList) (h3 : paramPos p.data.toList = some 0) (h4 : paramEnd p.data.toList + 1 = p.size)
    (h5 : stOf p.data.toList = some a) (h6 : enOf p.data.toList = some z) (h7 : a + 1 ≤ z) (h8 : p.data.toList.head? = some 58) (h9 : splitNE ((p.data.toList.drop (a + 1)).take (z - (a + 1))) 59 = [c]) (h10 : OneOf c con) (h11 : unesc (trimmed (p.data.toList.take a)) = nm) (h12 : p.data.toList[paramEnd p.data.toList]? ≠ some 63) :
    parseGo s.data.toList.length s.data.toList 0 0 [] [] = some ([cseg [47], { conSeg nm con with last := false }], [nm]) := by
  have hps : p.size = s.size - 1 := by rw [← size_data, ← h2, List.length_drop, size_data]
  have hpne : p.data.toList ≠ [] := by intro e; rw [e] at h8; cases h8
  have hp1 : 0 < p.size := by have := List.length_pos_iff.2 hpne; rw [size_data] at this; exact this
  obtain ⟨k, hk⟩ : ∃ k, s.data.toList.length = k + 1 + 1 := ⟨s.size - 2, by rw [size_data]; omega⟩
  have hsne : s.data.toList ≠ [] := by intro e; rw [e] at hk; simp at hk
  rw [hk, go_step_const hsne (by rw [h1]; simp), h1]
  have hcp : constPart s.data.toList (some 1) = ([47], cseg [47]) := by
    unfold constPart cseg
    simp only [hsl]
    simp [unesc]
  rw [hcp]
  have hd : s.data.toList.drop ([47] : Bs).length = p.data.toList := h2
  rw [hd]
  have hpp : paramPart p.data.toList 0 0 = some (p.data.toList.take (paramEnd p.data.toList + 1), { conSeg nm con with last := false }, 0, 0) := by
    rw [paramPart_con h5 h6 h7 h9 h10, h11, po_none (by rw [h8]; decide) (by rw [h8]; decide)]
    simp [conSeg]
    simpa using h12
  rw [step_param2 h3 hpp hpne]
  have he : p.data.toList.drop (p.data.toList.take (paramEnd p.data.toList + 1)).length = [] := by
    rw [List.length_take, size_data, h4, Nat.min_self]
    exact List.drop_of_length_le (by rw [size_data]; exact Nat.le_refl _)
  rw [he, go_step_end]
  rfl

set_option maxHeartbeats 4000000 in
set_option maxRecDepth 100000 in
theorem zzmatch_con (s t v : ByteArray) (nm : Bs) (con : Con) (X : Bool) (w : World) (hE : EnvC w) (hpat : ConPat s nm con) (hv0 : 0 < v.size) (hvs : v.size ≤ 1000000) (ht : t.data.toList = 47 :: v.data.toList) (hv47 : ∀ y ∈ v.data.toList, y ≠ 47) (hck : CheckOK con v X) :
    Calls Tryz.prog 33 #[.string s, .string t, .bool false] w fun e w' => ∃ vv is, e = .returned (.tuple #[vv, .bool is]) ∧ Below w.heap.size w w' ∧ Matched w (ansOf X v.data.toList) w' vv is := by
  obtain ⟨res, hres⟩ : ∃ res, res = ansOf X v.data.toList := ⟨_, rfl⟩
  rw [← hres]
  have HRES := Lib.hid hres
  clear hres
  obtain ⟨p, a, z, c, h1, h2, h3, h4, h5, h6, h7, h8, h9, h10, h11, h12⟩ := hpat.ex
  have hgo := conPat_go hpat.pos hpat.slash h1 h2 h3 h4 h5 h6 h7 h8 h9 h10 h11 h12
  have hcall := parse_con s p w hpat.size hpat.pos h1 h2 h3 h4 a z h5 h6 h7 h8 c h9 con h10 [cseg [47], { conSeg nm con with last := false }] [cseg [47], conSeg nm con] [nm] [nm] hgo (conPat_meta nm con) rfl (by simp)
  have HCALL := Lib.hid hcall
  have HE := Lib.hid hE
  have HCK := Lib.hid hck
  have HT := Lib.hid ht
  have HV47 := Lib.hid hv47
  clear hcall hgo h1 h2 h3 h4 h5 h6 h7 h8 h9 h10 h11 h12 hpat hE hck ht hv47
  go_enter Tryz.func33, Tryz.ntmps33
  go_wp2_with fail
  refine HCALL.out.mono ?_
  rintro e w1 ⟨gs, cvs, r, cap, pv, st, pl, rfl, hin, hnod, hinf, hrow, hrl, hown, hb1⟩
  obtain ⟨ao, ncap, rfl⟩ := own_form hown
  obtain ⟨g1, cv1, hg1, hcv1, ho1⟩ := hin.2.2 0 _ rfl
  obtain ⟨g2, cv2, hg2, hcv2, ho2⟩ := hin.2.2 1 _ rfl
  obtain ⟨base, hba, hgb, ks, hks, hkrow, hkg, hkc⟩ := hinf 1 _ g2 cv2 rfl hg2 hcv2 rfl
  obtain ⟨kc, hkc1, hkc2, hkc3, dd, hkc4, hkc5, hkc6⟩ := hkc 0 con rfl
  obtain rfl : ks = [kc] := by
    have hl : ks.length = 1 := hks
    match ks, hl with
    | [x], _ => simp at hkc1; rw [hkc1]
  obtain ⟨rc, ccap, rfl, hrcb, hrcl, hrcc⟩ := own_some hkrow (by simp)
  have hrc0 : w1.cell? ⟨rc, 0, none⟩ = some (.pointer (some ⟨kc, 0, none⟩)) := hrcc 0 _ rfl
  have hr1 := hrow 0 g1 hg1
  have hr2 := hrow 1 g2 hg2
  have hg2l : g2 < w1.heap.size := ho2.lt
  have hkcl : kc < w1.heap.size := lt_of_obj hkc4
  have HROWN := Lib.hid hown
  have HO1 := Lib.hid ho1
  have HO2 := Lib.hid ho2
  have HKC := Lib.hid hkc4
  have HKD := Lib.hid hkc5
  have HR1 := Lib.hid hr1
  have HR2 := Lib.hid hr2
  have HRC := Lib.hid hrc0
  have HB1 := Lib.hid hb1
  clear hin hrow hown hb1 HCALL hinf hg1 hcv1 ho1 hg2 hcv2 ho2 hgb hks hkrow hkg hkc hkc1 hkc4 hkc5 hkc6 hrcc hrc0 hr1 hr2
  go_wp2_with fail
  obtain ⟨W2, hW2⟩ : ∃ W2, W2 = ((w1.alloc (Obj.cells #[Value.slice (some { block := r, off := 0 }) 2 cap, Value.slice ao 1 ncap, Value.int IntKind.i64 st, Value.int IntKind.i64 pl] 79)).alloc (Obj.cells (Array.replicate 30 (Value.string ⟨#[]⟩)) 81)) := ⟨_, rfl⟩
  have hb2 : Below w1.heap.size w1 W2 := by rw [hW2]; exact ((Below.refl _ _).alloc (Nat.le_refl _) _).alloc (by simp) _
  have hsz2 : W2.heap.size = w1.heap.size + 1 + 1 := by rw [hW2]; simp
  have hQ : W2.cell? ⟨w1.heap.size, 0, none⟩ = some (.slice (some ⟨r, 0, none⟩) 2 cap) := by rw [hW2]; simp [cell_alloc, objCell]
  have hQ1 : W2.cell? ⟨w1.heap.size, 1, none⟩ = some (.slice ao 1 ncap) := by rw [hW2]; simp [cell_alloc, objCell]
  have hAA : W2.heap[w1.heap.size + 1]? = some (.cells (Array.replicate 30 (Value.string ⟨#[]⟩)) 81 (0, 0)) := by
    rw [hW2]
    show (Array.push _ _)[_]? = _
    rw [Array.getElem?_push, if_pos (by simp)]
  have hw1 := HB1.out.size
  have hchk : ∀ wx, Touch [w1.heap.size + 1] W2 wx → Calls Tryz.prog 34 #[.pointer (some ⟨kc, 0, none⟩), .string v] wx fun e w' => e = .returned (.bool X) ∧ Below wx.heap.size wx w' := fun wx htx => by
    have hbx : Below w1.heap.size w1 wx := hb2.trans (touch_to_below htx (fun g hg => by simp at hg; omega) (by omega))
    exact HCK.out kc base dd wx (HE.out.below (HB1.out.trans (hbx.mono hw1))) ((hbx.block kc hkcl).trans HKC.out) (own_below HKD.out hbx)
  have hcall := match_con t v nm con w1.heap.size r cap (w1.heap.size + 1) g1 g2 rc ccap kc W2 X hv0 hvs HT.out HV47.out hQ ((hb2.cell (p := ⟨r, 0, none⟩) hrl).trans HR1.out) ((hb2.cell (p := ⟨r, 1, none⟩) hrl).trans HR2.out) cv1 (HO1.out.below hb2 HO1.out.lt) (HO2.out.below hb2 HO2.out.lt) ((hb2.cell (p := ⟨rc, 0, none⟩) hrcl).trans HRC.out)
    ⟨Touch.refl _ _, _, hAA, by simp, fun i v h => by simp at h⟩ (by omega) (by omega) (by omega) hchk
  have HC2 := Lib.hid hcall
  have HB2 := Lib.hid (HB1.out.trans (hb2.mono HB1.out.size))
  have HSZ := Lib.hid hsz2
  clear hcall hAA hb2 hsz2 hchk
  rw [show (#[Value.string { data := #[] }, Value.string { data := #[] }, Value.string { data := #[] }, Value.string { data := #[] }, Value.string { data := #[] }, Value.string { data := #[] }, Value.string { data := #[] }, Value.string { data := #[] }, Value.string { data := #[] }, Value.string { data := #[] }, Value.string { data := #[] }, Value.string { data := #[] }, Value.string { data := #[] }, Value.string { data := #[] }, Value.string { data := #[] }, Value.string { data := #[] }, Value.string { data := #[] }, Value.string { data := #[] }, Value.string { data := #[] }, Value.string { data := #[] }, Value.string { data := #[] }, Value.string { data := #[] }, Value.string { data := #[] }, Value.string { data := #[] }, Value.string { data := #[] }, Value.string { data := #[] }, Value.string { data := #[] }, Value.string { data := #[] }, Value.string { data := #[] }, Value.string { data := #[] }] : Array Value) = Array.replicate 30 (Value.string ⟨#[]⟩) from rfl, ← hW2]
  clear hW2
  refine HC2.out.mono ?_
  rintro e w3 ⟨rfl, ht, ha⟩
  have hb3 : Below w.heap.size w w3 := by
    have h1 := HB1.out.size
    have h2 := HSZ.out
    exact HB2.out.trans (touch_to_below ht (fun g hg => by simp at hg; omega) (by omega))
  cases X with
  | false =>
    go_wp2_with fail
    go_ret2
    refine ⟨_, _, rfl, hb3, ?_⟩
    rw [HRES.out]
    exact ⟨rfl, rfl⟩
  | true =>
    obtain ⟨vs, hvs'⟩ : ∃ vs, vs = [v.data.toList] := ⟨_, rfl⟩
    rw [← hvs'] at ha
    have hvl : vs.length = 1 := by rw [hvs']; rfl
    have HVS := Lib.hid hvs'
    clear hvs'
    obtain ⟨ht4, cur, hcur, hcs, hcv⟩ := ha
    have hq3 : w3.cell? ⟨w1.heap.size, 1, none⟩ = some (.slice ao 1 ncap) := touch_cell ht4 (by simp) hQ1
    have hq4 : ∀ o, (w3.alloc o).cell? ⟨w1.heap.size, 1, none⟩ = some (.slice ao 1 ncap) := fun o => by rw [cell_alloc, if_neg (by have := cell_lt hq3; simp at this; omega)]; exact hq3
    obtain ⟨i9, hi9, hz90, hz91, hz92⟩ := info_parts info9
    have HCV := Lib.hid hcv
    have HCUR := Lib.hid hcur
    have HVL := Lib.hid hvl
    have HB3 := Lib.hid hb3
    have e1 : (1 : Int) ≤ 30 := by omega
    have hszz : w.heap.size ≤ w3.heap.size := hb3.size
    clear hcv hcur hvl hb3 ht ht4 HC2
    have hown0 : (w3.alloc (.cells #[] 9)).ownsRow w.heap.size 9 1 (.slice (some ⟨w3.heap.size, 0, none⟩) 0 0) 0 [] :=
      ⟨rfl, .inr ⟨w3.heap.size, 0, #[], rfl, hszz, heap_alloc_new _ _, Nat.le_refl _, Nat.zero_le _, rfl, rfl⟩⟩
    have HOWN0 := Lib.hid hown0
    have hnews : ∀ (j : Nat) (u : Value), (svals vs)[j]? = some u → (w3.alloc (.cells #[] 9)).cell? ((⟨w1.heap.size + 1, 0, none⟩ : Addr).add j) = some u := fun j u hu => by
      unfold svals at hu
      rw [List.getElem?_map] at hu
      obtain ⟨x, hx, rfl⟩ := Option.map_eq_some_iff.1 hu
      rw [add_cell, Nat.zero_add, cell_alloc, if_neg (by have := lt_of_obj HCUR.out; omega)]
      exact obj_cell HCUR.out (HCV.out j x hx)
    have HNEWS := Lib.hid hnews
    clear hown0 hnews
    go_wp2_with (at_builtin; refine wpList_append_own _ rfl (.tmp 17) (.tmp 21) 22 rfl w.heap.size 9 i9 (.string ⟨#[]⟩) 1 16 Tryz.underlying22 hi9 hz90 hz91 hz92 rfl (by decide) (.slice (some ⟨w3.heap.size, 0, none⟩) 0 0) 0 [] (by rfl) HOWN0.out ⟨w1.heap.size + 1, 0, none⟩ 1 30 (svals vs) (by rfl) (by simp [svals, HVL.out]) HNEWS.out (svals_one _) (by first | omega | (simp [maxLen]; done) | (simp [maxLen]; omega)) (by omega) (by first | omega | (simp; done) | (simp; omega)) ?_; intro vnew w4 hown4 hgrow4 hnil4)
    go_ret2
    refine ⟨vnew, true, rfl, ?_, ?_⟩
    · exact (HB3.out.alloc hszz (.cells #[] 9)).grown hgrow4 (by simp; omega) (fun k hk => by have : w3.heap.size = k := Option.some.inj hk; omega)
    · rw [HRES.out]
      refine ⟨rfl, ?_⟩
      show w4.ownsRow w.heap.size 9 1 vnew [v.data.toList].length (svals [v.data.toList])
      rw [← HVS.out]
      rw [HVL.out]
      rw [Nat.zero_add, List.nil_append] at hown4
      exact hown4

set_option maxHeartbeats 4000000 in
set_option maxRecDepth 100000 in
theorem values_con (s p v : ByteArray) (nm : Bs) (con : Con) (ans : Bool) (w : World) (hE : EnvC w) (hpat : ConPat s nm con) (hv0 : 0 < v.size) (hvs : v.size ≤ 1000000) (ht : p.data.toList = 47 :: v.data.toList) (hv47 : ∀ y ∈ v.data.toList, y ≠ 47) (hck : CheckOK con v ans) :
    Calls Tryz.prog 18 #[.string s, .string p, .bool false] w fun e w' => ∃ vv is, e = .returned (.tuple #[vv, .bool is, .bool true]) ∧ Below w.heap.size w w' ∧ Matched w (ansOf ans v.data.toList) w' vv is := by
  have hmf : ∀ (fn : Fn) (first cap : Array Value) (w : World), (Instr.makeFunc fn first cap).run Tryz.prog w = .ok (.func fn first cap) w := fun _ _ _ _ => rfl
  obtain ⟨W1, hW1⟩ : ∃ W1, W1 = (((w.alloc (Obj.cells #[Value.slice none 0 0] 22)).alloc (Obj.cells #[Value.bool false] 4)).alloc (Obj.cells #[Value.bool false] 4)) := ⟨_, rfl⟩
  have hbW : Below w.heap.size w W1 := by rw [hW1]; exact (((Below.refl _ _).alloc (Nat.le_refl _) _).alloc (by simp) _).alloc (by simp; omega) _
  have hsW : W1.heap.size = w.heap.size + 1 + 1 + 1 := by rw [hW1]; simp
  have s1 : (w.alloc (Obj.cells #[Value.slice none 0 0] 22)).heap.size = w.heap.size + 1 := by simp
  have s2 : ((w.alloc (Obj.cells #[Value.slice none 0 0] 22)).alloc (Obj.cells #[Value.bool false] 4)).heap.size = w.heap.size + 1 + 1 := by simp
  have k0 : W1.heap[w.heap.size]? = some (.cells #[.slice none 0 0] 22 (0, 0)) := by
    rw [hW1, Below.heap_alloc _ _ _ (by rw [s2]; omega), Below.heap_alloc _ _ _ (by rw [s1]; omega), heap_alloc_new]
  have k1 : W1.heap[w.heap.size + 1]? = some (.cells #[.bool false] 4 (0, 0)) := by
    rw [hW1, Below.heap_alloc _ _ _ (by rw [s2]; omega), ← s1, heap_alloc_new]
  have k2 : W1.heap[w.heap.size + 1 + 1]? = some (.cells #[.bool false] 4 (0, 0)) := by
    rw [hW1, ← s2, heap_alloc_new]
  clear s1 s2
  have hcall := zzmatch_con s p v nm con ans W1 (hE.below hbW) hpat hv0 hvs ht hv47 hck
  have HCALL := Lib.hid hcall
  have HBW := Lib.hid hbW
  have HSW := Lib.hid hsW
  have HW1 := Lib.hid hW1
  clear hcall hbW hsW hW1 hE hpat ht hv47 hck
  go_enter_defers Tryz.func18, Tryz.ntmps18
  go_wp2_with fail
  rw [← HW1.out]
  refine HCALL.out.mono ?_
  rintro e w2 ⟨vv, is, rfl, hb2, hm⟩
  have hv : ∃ ao n cap, vv = .slice ao n cap := by
    unfold Matched at hm
    split at hm
    · obtain ⟨ao, cap, h⟩ := own_form hm.2
      exact ⟨ao, _, cap, h⟩
    · exact ⟨none, 0, 0, hm.2⟩
  obtain ⟨ao, n, cap, rfl⟩ := hv
  have q0 := (hb2.block _ (by have := HSW.out; omega)).trans k0
  have q1 := (hb2.block _ (by have := HSW.out; omega)).trans k1
  have q2 := (hb2.block _ (by have := HSW.out; omega)).trans k2
  have c0 := obj_cell (i := 0) q0 rfl
  have c1 := obj_cell (i := 0) q1 rfl
  have c2 := obj_cell (i := 0) q2 rfl
  have f0 := obj_free (i := 0) q0
  have f1 := obj_free (i := 0) q1
  have f2 := obj_free (i := 0) q2
  have HB2 := Lib.hid hb2
  have HM := Lib.hid hm
  have Q0 := Lib.hid q0
  have Q1 := Lib.hid q1
  have Q2 := Lib.hid q2
  clear hb2 hm q0 q1 q2 k0 k1 k2 HCALL
  go_wp2_with fail
  go_region
  rw [show (((((w2.setCell ⟨w.heap.size, 0, none⟩ (.slice ao n cap)).setCell ⟨w.heap.size + 1, 0, none⟩ (.bool is)).setCell ⟨w.heap.size, 0, none⟩ (.slice ao n cap)).setCell ⟨w.heap.size + 1, 0, none⟩ (.bool is)).setCell ⟨w.heap.size + 1 + 1, 0, none⟩ (.bool true)).drew = stored w2 w.heap.size (w.heap.size + 1) (w.heap.size + 1 + 1) (.slice ao n cap) (.bool is) (.bool true) from rfl]
  obtain ⟨X, hX⟩ : ∃ X, X = stored w2 w.heap.size (w.heap.size + 1) (w.heap.size + 1 + 1) (.slice ao n cap) (.bool is) (.bool true) := ⟨_, rfl⟩
  rw [← hX]
  have HX := Lib.hid hX
  clear hX
  go_wp2_with fail
  refine leaves_cons (f := 32) (args := #[.pointer (some ⟨w.heap.size, 0, none⟩), .pointer (some ⟨w.heap.size + 1, 0, none⟩), .pointer (some ⟨w.heap.size + 1 + 1, 0, none⟩)]) (by simp) (by simp [go_sem]) ?_
  refine (catch_idle _ _ _ _).mono ?_
  rintro e u' X ⟨rfl, rfl, rfl⟩
  have n1 : w.heap.size ≠ w.heap.size + 1 := by omega
  have n2 : w.heap.size ≠ w.heap.size + 1 + 1 := by omega
  have n3 : w.heap.size + 1 ≠ w.heap.size + 1 + 1 := by omega
  have hx0 : X.heap[w.heap.size]? = some (.cells #[.slice ao n cap] 22 (0, 0)) := by rw [HX.out]; exact stored_a n1 n2 n3 Q0.out
  have hx1 : X.heap[w.heap.size + 1]? = some (.cells #[.bool is] 4 (0, 0)) := by rw [HX.out]; exact stored_b n1 n2 n3 Q1.out
  have hx2 : X.heap[w.heap.size + 1 + 1]? = some (.cells #[.bool true] 4 (0, 0)) := by rw [HX.out]; exact stored_c n1 n2 n3 Q2.out
  have x0 := obj_cell (i := 0) hx0 rfl
  have x1 := obj_cell (i := 0) hx1 rfl
  have x2 := obj_cell (i := 0) hx2 rfl
  have hkeep : ∀ k, w.heap.size + 1 + 1 < k → X.heap[k]? = w2.heap[k]? := fun k hk => by
    rw [HX.out]
    exact stored_keep k (by omega) (by omega) (by omega)
  have hbX : Below w.heap.size w X := by
    rw [HX.out]
    exact stored_below (HBW.out.trans (HB2.out.mono HBW.out.size)) (Nat.le_refl _) (by omega) (by omega)
  have hmX : Matched w (ansOf ans v.data.toList) X (.slice ao n cap) is := by
    have h1 := HM.out
    unfold Matched at h1 ⊢
    split at h1
    · exact ⟨h1.1, own_base (own_keep h1.2 (fun k hk => hkeep k (by have := (h1.2.lt k hk).1; have := HSW.out; omega))) (by have := HSW.out; omega)⟩
    · exact h1
  have HMX := Lib.hid hmX
  have HBX := Lib.hid hbX
  clear hkeep hbX hmX hx0 hx1 hx2 n1 n2 n3
  obtain ⟨R, hRd⟩ : ∃ R : Ending → World → Prop, R = fun (e : Ending) (w' : World) => ∃ vv is, e = .returned (.tuple #[vv, .bool is, .bool true]) ∧ Below w.heap.size w w' ∧ Matched w (ansOf ans v.data.toList) w' vv is := ⟨_, rfl⟩
  have hR : R (.returned (.tuple #[.slice ao n cap, .bool is, .bool true])) X := by rw [hRd]; exact ⟨_, _, rfl, HBX.out, HMX.out⟩
  rw [← hRd]
  clear hRd HBX HMX HM HX Q0 Q1 Q2 HB2 HBW HSW HW1
  have HR := Lib.hid hR
  clear hR
  show Leaves Tryz.prog Tryz.f18 _ R [] .returning X
  refine ⟨_, ?_, HR.out⟩
  rw [results_cell3 (p := 6) (u := 7) (q := 8) (a := 22) (b := 4) (c := 4) Tryz.results18]
  simp only [Array.getD, List.size_toArray, List.length_cons, List.length_nil]
  simp [asAddr, Result.andThen, go_sem, x0, x1, x2]
end Go.Proofs.YtiebedcldbmlhaaGreatDoor
