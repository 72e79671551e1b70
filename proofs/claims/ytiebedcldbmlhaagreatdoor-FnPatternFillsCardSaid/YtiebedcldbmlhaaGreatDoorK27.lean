/-
  Joined: What strconv.Atoi answers at every text, its error told from nil; what the package-level variables hold; CheckConstraint at the kinds 2, 8, 9, 10; CheckConstraint at the kinds 3 and 5.
  Conditions: each law's own.
-/
import Derived.Test.YtiebedcldbmlhaaGreatDoorK26
import Derived.Shelf.Unicode.PredsAny
import Derived.WideLaws
import Derived.LaidEql
import Derived.Lib.SmallJoins
import Derived.Lib.OthersKept
namespace Go.Proofs.YtiebedcldbmlhaaGreatDoor
open Go.RowKit
open Go.Lib (RVar letterT RgTab RTab)
set_option linter.unusedVariables false

theorem kept_cell {w w' : World} (hb : Below w.heap.size w w') {a : Addr} {v : Value} (hc : w.cell? a = some v) : w'.cell? a = some v := (hb.cell (World.block_lt_of_cell? w a hc)).trans hc
theorem rvar_below {g : Nat} {T : Lib.RTab} {w w' : World} (h : RVar g T w) (hb : Below w.heap.size w w') : RVar g T w' := by
  obtain ⟨Tb, oT, hp, a16, a32, R16, o16, c16, R32, o32, c32, k0, k1, k2, h1, h2, t1, t2, hc⟩ := h
  exact ⟨Tb, oT, kept_cell hb hp, a16, a32, R16, o16, c16, R32, o32, c32, kept_cell hb k0, kept_cell hb k1, kept_cell hb k2, h1, h2, RgTab_below t1 hb, RgTab_below t2 hb, hc⟩
theorem tabIs_below {n : String} {g : Nat} {k : IntKind} {zs : List Int} {w w' : World} (hg : Tryz.prog.globalNamed n = some g) (h : Lib.TabIs Tryz.prog w n k zs) (hb : Below w.heap.size w w') : Lib.TabIs Tryz.prog w' n k zs := by
  unfold Lib.TabIs World.var? at h ⊢
  rw [hg] at h ⊢
  simp only [Option.bind_some] at h ⊢
  have hlt : g < w.heap.size := by
    rcases Nat.lt_or_ge g w.heap.size with h' | h'
    · exact h'
    · rw [Array.getElem?_eq_none h'] at h; cases h
  rw [hb.block g hlt]
  exact h
/-- What the package-level variables hold that constraints read. -/
structure EnvC (w : World) : Prop where
  size : 4 ≤ w.heap.size
  e2 : ∃ te pe, w.cell? ⟨2, 0, none⟩ = some (.iface te pe)
  e3 : ∃ te pe, w.cell? ⟨3, 0, none⟩ = some (.iface te pe)
  props : Lib.TabIs Tryz.prog w "unicode.properties" .u8 Lib.propertiesTab
  letters : RVar 1 letterT w
theorem gProps : Tryz.prog.globalNamed "unicode.properties" = some 0 := by kernel_rfl
theorem EnvC.below {w w' : World} (h : EnvC w) (hb : Below w.heap.size w w') : EnvC w' := by
  refine ⟨Nat.le_trans h.size hb.size, ?_, ?_, tabIs_below gProps h.props hb, rvar_below h.letters hb⟩
  · obtain ⟨t, p, h2⟩ := h.e2; exact ⟨t, p, (hb.cell (p := ⟨2, 0, none⟩) (show 2 < w.heap.size by have := h.size; omega)).trans h2⟩
  · obtain ⟨t, p, h2⟩ := h.e3; exact ⟨t, p, (hb.cell (p := ⟨3, 0, none⟩) (show 3 < w.heap.size by have := h.size; omega)).trans h2⟩

/-- The number that Atoi tells, whatever the text. -/
def atoiVal (l : List UInt8) : Int := match Lib.atoiAll l with | .ok v => v | .range => Lib.atoiSat l | _ => 0
def atoiOk (l : List UInt8) : Bool := match Lib.atoiAll l with | .ok _ => true | _ => false

theorem atoiVal_bounds (l : List UInt8) : -9223372036854775808 ≤ atoiVal l ∧ atoiVal l ≤ 9223372036854775807 := by
  unfold atoiVal
  split
  · exact Lib.atoiAll_bounds (by assumption)
  · unfold Lib.atoiSat; split <;> omega
  · omega

def ErrIs (ev : Value) (ok : Bool) : Prop := if ok then ev = .nilIface else ∃ N, ev = .iface 126 (.pointer (some ⟨N, 0, none⟩))

theorem atoi_any (s : ByteArray) (hs : s.size ≤ 281474976710656) (w : World) (hE : EnvC w) :
    Calls Tryz.prog 45 #[.string s] w fun e w' => ∃ ev, e = .returned (.tuple #[.int .i64 (atoiVal s.data.toList), ev]) ∧ ErrIs ev (atoiOk s.data.toList) ∧ Below w.heap.size w w' := by
  rcases h : Lib.atoiAll s.data.toList with v | _ | _
  · refine (Tryz.strconv_Atoi_ok s (by omega) v h w).mono ?_
    rintro e w' ⟨rfl, hw⟩
    refine ⟨.nilIface, by simp only [atoiVal, h], by simp [ErrIs, atoiOk, h], ?_⟩
    rcases hw with rfl | ⟨t, rfl⟩
    · exact Below.refl _ _
    · exact Joins.below_bytesWorld _ _ _ _ (Nat.le_refl _)
  · obtain ⟨te, pe, hv⟩ := hE.e2
    refine (Any.strconv_Atoi_syntax Tryz.laysC172 s hs h _ w hv (.inr ⟨te, pe, rfl⟩)).mono ?_
    rintro e w' ⟨N, rfl, _, _, hb⟩
    exact ⟨.iface 126 (.pointer (some ⟨N, 0, none⟩)), by simp only [atoiVal, h]; rfl, by simp [ErrIs, atoiOk, h], hb⟩
  · obtain ⟨te, pe, hv⟩ := hE.e3
    refine (Tryz.strconv_Atoi_range s hs h _ w hv (.inr ⟨te, pe, rfl⟩)).mono ?_
    rintro e w' ⟨N, rfl, _, _, hb⟩
    exact ⟨.iface 126 (.pointer (some ⟨N, 0, none⟩)), by simp only [atoiVal, h], by simp [ErrIs, atoiOk, h], hb⟩

theorem below_two (w : World) (o1 o2 : Obj) : Below w.heap.size w ((w.alloc o1).alloc o2) := ((Below.refl _ _).alloc (Nat.le_refl _) _).alloc (by simp) _


theorem nil_ne (N : Nat) (w : World) : (binOp .eql 86 (.iface 126 (.pointer (some ⟨N, 0, none⟩))) .nilIface).run Tryz.prog w = .ok (.bool false) w :=
  run_eql_held_nil _ 86 126 _ (by kernel_rfl)
end Go.Proofs.YtiebedcldbmlhaaGreatDoor
namespace Go.Proofs.YtiebedcldbmlhaaGreatDoor
open Go.RowKit
set_option linter.unusedVariables false

set_option maxHeartbeats 2000000 in
set_option maxRecDepth 100000 in
theorem check8 (bp o b off cap n : Nat) (s d0 d1 : ByteArray) (w : World) (hE : EnvC w) (hs : s.size ≤ 140737488351232) (hd0 : d0.size ≤ 140737488351232) (hd1 : d1.size ≤ 140737488351232) (hn : 1 ≤ n)
    (c0 : w.cell? ⟨bp, o, none⟩ = some (.int .i16 8)) (c1 : w.cell? ⟨bp, o + 1, none⟩ = some (.slice (some ⟨b, off, none⟩) n cap))
    (c2 : w.cell? ⟨b, off, none⟩ = some (.string d0)) :
    Calls Tryz.prog 34 #[.pointer (some ⟨bp, o, none⟩), .string s] w fun e w' => e = .returned (.bool (decide (atoiVal d0.data.toList ≤ s.size))) ∧ Below w.heap.size w w' := by
  have hb1 := cell_lt c0
  have hb2 := cell_lt c2
  obtain ⟨q, hq⟩ : ∃ q, q = atoiVal d0.data.toList := ⟨_, rfl⟩
  have hq1 : -9223372036854775808 ≤ q := by rw [hq]; exact (atoiVal_bounds _).1
  have hq2 : q ≤ 9223372036854775807 := by rw [hq]; exact (atoiVal_bounds _).2
  have Hq := Lib.hid hq
  clear hq
  have HK := Lib.hid (show ∀ w', Below w.heap.size w w' → w'.cell? ⟨bp, o, none⟩ = w.cell? ⟨bp, o, none⟩ ∧ w'.cell? ⟨bp, o + 1, none⟩ = w.cell? ⟨bp, o + 1, none⟩ ∧ w'.cell? ⟨b, off, none⟩ = w.cell? ⟨b, off, none⟩ ∧ w'.cell? ⟨b, off + 1, none⟩ = w.cell? ⟨b, off + 1, none⟩ from fun w' h => ⟨h.cell (p := ⟨bp, o, none⟩) hb1, h.cell (p := ⟨bp, o + 1, none⟩) hb1, h.cell (p := ⟨b, off, none⟩) hb2, h.cell (p := ⟨b, off + 1, none⟩) hb2⟩)
  go_enter Tryz.func34, Tryz.ntmps34
  go_wp2
  refine wp_loop_rounds 8 ?_
  iterate 8 (rw [rounds_succ]; go_wp2)
  refine wp_loop_rounds 3 ?_
  iterate 2 (rw [rounds_succ]; go_wp2)
  rw [rounds_succ]
  go_wp2_with fail
  refine (atoi_any d0 (by omega) _ (hE.below (below_two _ _ _))).mono ?_
  rintro e w1 ⟨ev, rfl, herr, hb⟩
  rw [← Hq.out]
  have hB1 := (below_two w _ _).trans (hb.mono (Nat.le_trans (below_two w _ _).size (Nat.le_refl _)))
  clear hb
  clear herr
  have HB1 := Lib.hid hB1
  clear hB1
  go_wp2
  all_goals
    go_ret
    exact ⟨ret_bool (by rw [← Hq.out]; symm; first | exact decide_eq_true (by omega) | exact decide_eq_false (by omega)), HB1.out⟩


set_option maxHeartbeats 2000000 in
set_option maxRecDepth 100000 in
theorem check9 (bp o b off cap n : Nat) (s d0 d1 : ByteArray) (w : World) (hE : EnvC w) (hs : s.size ≤ 140737488351232) (hd0 : d0.size ≤ 140737488351232) (hd1 : d1.size ≤ 140737488351232) (hn : 1 ≤ n)
    (c0 : w.cell? ⟨bp, o, none⟩ = some (.int .i16 9)) (c1 : w.cell? ⟨bp, o + 1, none⟩ = some (.slice (some ⟨b, off, none⟩) n cap))
    (c2 : w.cell? ⟨b, off, none⟩ = some (.string d0)) :
    Calls Tryz.prog 34 #[.pointer (some ⟨bp, o, none⟩), .string s] w fun e w' => e = .returned (.bool (decide ((s.size : Int) ≤ atoiVal d0.data.toList))) ∧ Below w.heap.size w w' := by
  have hb1 := cell_lt c0
  have hb2 := cell_lt c2
  obtain ⟨q, hq⟩ : ∃ q, q = atoiVal d0.data.toList := ⟨_, rfl⟩
  have hq1 : -9223372036854775808 ≤ q := by rw [hq]; exact (atoiVal_bounds _).1
  have hq2 : q ≤ 9223372036854775807 := by rw [hq]; exact (atoiVal_bounds _).2
  have Hq := Lib.hid hq
  clear hq
  have HK := Lib.hid (show ∀ w', Below w.heap.size w w' → w'.cell? ⟨bp, o, none⟩ = w.cell? ⟨bp, o, none⟩ ∧ w'.cell? ⟨bp, o + 1, none⟩ = w.cell? ⟨bp, o + 1, none⟩ ∧ w'.cell? ⟨b, off, none⟩ = w.cell? ⟨b, off, none⟩ ∧ w'.cell? ⟨b, off + 1, none⟩ = w.cell? ⟨b, off + 1, none⟩ from fun w' h => ⟨h.cell (p := ⟨bp, o, none⟩) hb1, h.cell (p := ⟨bp, o + 1, none⟩) hb1, h.cell (p := ⟨b, off, none⟩) hb2, h.cell (p := ⟨b, off + 1, none⟩) hb2⟩)
  go_enter Tryz.func34, Tryz.ntmps34
  go_wp2
  refine wp_loop_rounds 8 ?_
  iterate 8 (rw [rounds_succ]; go_wp2)
  refine wp_loop_rounds 3 ?_
  iterate 2 (rw [rounds_succ]; go_wp2)
  rw [rounds_succ]
  go_wp2_with fail
  refine (atoi_any d0 (by omega) _ (hE.below (below_two _ _ _))).mono ?_
  rintro e w1 ⟨ev, rfl, herr, hb⟩
  rw [← Hq.out]
  have hB1 := (below_two w _ _).trans (hb.mono (Nat.le_trans (below_two w _ _).size (Nat.le_refl _)))
  clear hb
  clear herr
  have HB1 := Lib.hid hB1
  clear hB1
  go_wp2
  all_goals
    go_ret
    exact ⟨ret_bool (by rw [← Hq.out]; symm; first | exact decide_eq_true (by omega) | exact decide_eq_false (by omega)), HB1.out⟩


set_option maxHeartbeats 2000000 in
set_option maxRecDepth 100000 in
theorem check10 (bp o b off cap n : Nat) (s d0 d1 : ByteArray) (w : World) (hE : EnvC w) (hs : s.size ≤ 140737488351232) (hd0 : d0.size ≤ 140737488351232) (hd1 : d1.size ≤ 140737488351232) (hn : 1 ≤ n)
    (c0 : w.cell? ⟨bp, o, none⟩ = some (.int .i16 10)) (c1 : w.cell? ⟨bp, o + 1, none⟩ = some (.slice (some ⟨b, off, none⟩) n cap))
    (c2 : w.cell? ⟨b, off, none⟩ = some (.string d0)) :
    Calls Tryz.prog 34 #[.pointer (some ⟨bp, o, none⟩), .string s] w fun e w' => e = .returned (.bool (decide ((s.size : Int) = atoiVal d0.data.toList))) ∧ Below w.heap.size w w' := by
  have hb1 := cell_lt c0
  have hb2 := cell_lt c2
  obtain ⟨q, hq⟩ : ∃ q, q = atoiVal d0.data.toList := ⟨_, rfl⟩
  have hq1 : -9223372036854775808 ≤ q := by rw [hq]; exact (atoiVal_bounds _).1
  have hq2 : q ≤ 9223372036854775807 := by rw [hq]; exact (atoiVal_bounds _).2
  have Hq := Lib.hid hq
  clear hq
  have HK := Lib.hid (show ∀ w', Below w.heap.size w w' → w'.cell? ⟨bp, o, none⟩ = w.cell? ⟨bp, o, none⟩ ∧ w'.cell? ⟨bp, o + 1, none⟩ = w.cell? ⟨bp, o + 1, none⟩ ∧ w'.cell? ⟨b, off, none⟩ = w.cell? ⟨b, off, none⟩ ∧ w'.cell? ⟨b, off + 1, none⟩ = w.cell? ⟨b, off + 1, none⟩ from fun w' h => ⟨h.cell (p := ⟨bp, o, none⟩) hb1, h.cell (p := ⟨bp, o + 1, none⟩) hb1, h.cell (p := ⟨b, off, none⟩) hb2, h.cell (p := ⟨b, off + 1, none⟩) hb2⟩)
  by_cases hne : (s.size : Int) = q
  · have hbe : ((s.size : Int) != q) = false := bne_eq_false_iff_eq.2 hne
    have HN := Lib.hid hne
    clear hne
    go_enter Tryz.func34, Tryz.ntmps34
    go_wp2
    refine wp_loop_rounds 8 ?_
    iterate 8 (rw [rounds_succ]; go_wp2)
    refine wp_loop_rounds 3 ?_
    iterate 2 (rw [rounds_succ]; go_wp2)
    rw [rounds_succ]
    go_wp2_with fail
    refine (atoi_any d0 (by omega) _ (hE.below (below_two _ _ _))).mono ?_
    rintro e w1 ⟨ev, rfl, herr, hb⟩
    rw [← Hq.out]
    have hB1 := (below_two w _ _).trans (hb.mono (Nat.le_trans (below_two w _ _).size (Nat.le_refl _)))
    clear hb
    clear herr
    have HB1 := Lib.hid hB1
    clear hB1
    go_wp2
    go_ret
    exact ⟨ret_bool (by rw [← Hq.out]; exact (decide_eq_true HN.out).symm), HB1.out⟩
  · have hbe : ((s.size : Int) != q) = true := by simpa [bne_iff_ne] using hne
    have HN := Lib.hid hne
    clear hne
    go_enter Tryz.func34, Tryz.ntmps34
    go_wp2
    refine wp_loop_rounds 8 ?_
    iterate 8 (rw [rounds_succ]; go_wp2)
    refine wp_loop_rounds 3 ?_
    iterate 2 (rw [rounds_succ]; go_wp2)
    rw [rounds_succ]
    go_wp2_with fail
    refine (atoi_any d0 (by omega) _ (hE.below (below_two _ _ _))).mono ?_
    rintro e w1 ⟨ev, rfl, herr, hb⟩
    rw [← Hq.out]
    have hB1 := (below_two w _ _).trans (hb.mono (Nat.le_trans (below_two w _ _).size (Nat.le_refl _)))
    clear hb
    clear herr
    have HB1 := Lib.hid hB1
    clear hB1
    go_wp2
    go_ret
    exact ⟨ret_bool (by rw [← Hq.out]; exact (decide_eq_false HN.out).symm), HB1.out⟩


set_option maxHeartbeats 2000000 in
set_option maxRecDepth 100000 in
theorem check2 (bp o : Nat) (dv : Value) (s : ByteArray) (w : World) (hE : EnvC w) (hs : s.size ≤ 140737488351232)
    (c0 : w.cell? ⟨bp, o, none⟩ = some (.int .i16 2)) :
    Calls Tryz.prog 34 #[.pointer (some ⟨bp, o, none⟩), .string s] w fun e w' => e = .returned (.bool (atoiOk s.data.toList)) ∧ Below w.heap.size w w' := by
  have hb1 := cell_lt c0
  obtain ⟨v, hv⟩ : ∃ q, q = atoiVal s.data.toList := ⟨_, rfl⟩
  have hv1 : -9223372036854775808 ≤ v := by rw [hv]; exact (atoiVal_bounds _).1
  have hv2 : v ≤ 9223372036854775807 := by rw [hv]; exact (atoiVal_bounds _).2
  have Hv := Lib.hid hv
  clear hv
  go_enter Tryz.func34, Tryz.ntmps34
  go_wp2
  refine wp_loop_rounds 8 ?_
  iterate 8 (rw [rounds_succ]; go_wp2)
  refine wp_loop_rounds 3 ?_
  iterate 2 (rw [rounds_succ]; go_wp2)
  rw [rounds_succ]
  go_wp2_with fail
  refine (atoi_any s (by omega) _ (hE.below (below_two _ _ _))).mono ?_
  rintro e w1 ⟨ev, rfl, herr, hb⟩
  rw [← Hv.out]
  have hB1 := (below_two w _ _).trans (hb.mono (Nat.le_trans (below_two w _ _).size (Nat.le_refl _)))
  clear hb
  simp only [ErrIs] at herr
  cases hok : atoiOk s.data.toList
  · simp only [hok, Bool.false_eq_true, if_false] at herr
    obtain ⟨N, rfl⟩ := herr
    have HOK := Lib.hid hok
    clear hok
    have HB1 := Lib.hid hB1
    clear hB1
    have hnil := nil_ne N
    go_wp2
    all_goals
      go_ret
      exact ⟨ret_bool (HOK.out.symm), HB1.out⟩
  · simp only [hok, if_true] at herr
    subst herr
    have HOK := Lib.hid hok
    clear hok
    have HB1 := Lib.hid hB1
    clear hB1
    go_wp2
    all_goals
      go_ret
      exact ⟨ret_bool (HOK.out.symm), HB1.out⟩

end Go.Proofs.YtiebedcldbmlhaaGreatDoor
namespace Go.Proofs.YtiebedcldbmlhaaGreatDoor
open Go.RowKit
open Go.Lib (RVar letterT RgTab RTab)
set_option linter.unusedVariables false

set_option maxHeartbeats 2000000 in
set_option maxRecDepth 100000 in
theorem check3 (bp o : Nat) (s : ByteArray) (w : World) (hE : EnvC w) (hs : s.size ≤ 140737488351232)
    (c0 : w.cell? ⟨bp, o, none⟩ = some (.int .i16 3)) :
    Calls Tryz.prog 34 #[.pointer (some ⟨bp, o, none⟩), .string s] w fun e w' => e = .returned (.bool (Lib.parseBool s.data.toList).isSome) ∧ Below w.heap.size w w' := by
  have hb1 := cell_lt c0
  obtain ⟨te, pe, hv⟩ := hE.e2
  have hsz := hE.size
  go_enter Tryz.func34, Tryz.ntmps34
  go_wp2
  refine wp_loop_rounds 8 ?_
  iterate 8 (rw [rounds_succ]; go_wp2)
  refine wp_loop_rounds 3 ?_
  iterate 2 (rw [rounds_succ]; go_wp2)
  rw [rounds_succ]
  go_wp2_with fail
  cases hp : Lib.parseBool s.data.toList with
  | some b =>
    refine (Tryz.strconv_ParseBool s b hp _).mono ?_
    rintro e w1 ⟨rfl, rfl⟩
    have HP := Lib.hid hp
    clear hp
    go_wp2
    all_goals
      go_ret
      exact ⟨ret_bool (by rw [HP.out]; rfl), below_two w _ _⟩
  | none =>
    refine (Tryz.strconv_ParseBool_err s (by omega) hp _ _ (((below_two w _ _).cell (p := ⟨2, 0, none⟩) (show 2 < w.heap.size by omega)).trans hv) (.inr ⟨te, pe, rfl⟩)).mono ?_
    rintro e w1 ⟨N, rfl, _, _, hb⟩
    have hB1 := (below_two w _ _).trans (hb.mono (Nat.le_trans (below_two w _ _).size (Nat.le_refl _)))
    have HB1 := Lib.hid hB1
    have HP := Lib.hid hp
    have hnil := nil_ne N
    clear hb hB1 hp
    go_wp2
    all_goals
      go_ret
      exact ⟨ret_bool (by rw [HP.out]; rfl), HB1.out⟩

/-- Where an iterator stands. -/
def itPos (w : World) (k : Nat) : Nat := match w.heap[k]? with
  | some (.stringIter _ p) => p
  | _ => 0
theorem itPos_of {w : World} {k : Nat} {s : ByteArray} {p : Nat} (h : w.heap[k]? = some (.stringIter s p)) : itPos w k = p := by unfold itPos; rw [h]
/-- Whether a sign is a letter; whether all signs from a place on are. -/
def letterB (r : Int) : Bool := if Lib.latin1 r then Lib.isLetterL r else Lib.exclGo letterT r
def lettersGo (s : ByteArray) : Nat → Nat → Bool
  | 0, _ => true
  | f + 1, pos => if pos < s.size then letterB (Utf8.decode s pos).1 && lettersGo s f (pos + (Utf8.decode s pos).2) else true
theorem lettersGo_end {s : ByteArray} {f pos : Nat} (h : ¬ pos < s.size) : lettersGo s f pos = true := by
  cases f with
  | zero => rfl
  | succ f => unfold lettersGo; rw [if_neg h]
theorem lettersGo_step {s : ByteArray} {f pos : Nat} (h : pos < s.size) : lettersGo s (f + 1) pos = (letterB (Utf8.decode s pos).1 && lettersGo s f (pos + (Utf8.decode s pos).2)) := by
  conv => lhs; unfold lettersGo
  rw [if_pos h]
theorem decode_small (s : ByteArray) (pos : Nat) : (Utf8.decode s pos).1 ≤ 2147483647 := by
  have hb : ∀ k, (s.get! (pos + k)).toNat < 256 := fun k => (s.get! (pos + k)).toNat_lt
  have hb0 := hb 0
  have hb1 := hb 1
  have hb2 := hb 2
  have hb3 := hb 3
  simp only [Utf8.decode]
  repeat' split
  all_goals first | omega | decide

set_option maxHeartbeats 2000000 in
set_option maxRecDepth 100000 in
theorem check5 (bp o : Nat) (s : ByteArray) (w : World) (hE : EnvC w) (hs : s.size ≤ 140737488351232)
    (c0 : w.cell? ⟨bp, o, none⟩ = some (.int .i16 5)) :
    Calls Tryz.prog 34 #[.pointer (some ⟨bp, o, none⟩), .string s] w fun e w' => e = .returned (.bool (lettersGo s s.size 0)) ∧ Below w.heap.size w w' := by
  have hb1 := cell_lt c0
  have HE := Lib.hid hE
  clear hE
  go_enter Tryz.func34, Tryz.ntmps34
  go_wp2
  refine wp_loop_rounds 8 ?_
  iterate 8 (rw [rounds_succ]; go_wp2)
  refine wp_loop_rounds 3 ?_
  iterate 2 (rw [rounds_succ]; go_wp2)
  rw [rounds_succ]
  go_wp2_with fail
  obtain ⟨W2, hW2⟩ : ∃ W2, W2 = ((w.alloc (Obj.cells #[Value.int IntKind.i16 8, Value.int IntKind.i16 9, Value.int IntKind.i16 10, Value.int IntKind.i16 12, Value.int IntKind.i16 13, Value.int IntKind.i16 6, Value.int IntKind.i16 15] 64)).alloc (Obj.cells #[Value.int IntKind.i16 11, Value.int IntKind.i16 14] 64)) := ⟨_, rfl⟩
  rw [← hW2]
  have hb2 : Below w.heap.size w W2 := by rw [hW2]; exact below_two w _ _
  have hz2 : W2.heap.size = w.heap.size + 1 + 1 := by rw [hW2]; simp
  have hbi : Below w.heap.size w (W2.iter s 0) := hb2.trans ((iter_below W2 s 0).mono hb2.size)
  have hki : (W2.iter s 0).heap[w.heap.size + 1 + 1]? = some (.stringIter s 0) := by
    rw [← hz2]
    show (W2.heap.push _)[W2.heap.size]? = _
    simp
  have HBI := Lib.hid hbi
  have HKI := Lib.hid hki
  clear hW2 hb2 hz2 hbi hki
  go_loopw [14] (fun _ wr => ∃ pos fuel : Nat, wr.heap[w.heap.size + 1 + 1]? = some (.stringIter s pos) ∧ pos ≤ s.size ∧ s.size - pos ≤ fuel ∧ lettersGo s fuel pos = lettersGo s s.size 0 ∧ Below w.heap.size w wr) (fun _ wr => s.size - itPos wr (w.heap.size + 1 + 1))
  case atStart => exact ⟨0, s.size, HKI.out, Nat.zero_le _, by omega, rfl, HBI.out⟩
  case round =>
    obtain ⟨pos, fuel, hki, hps, hfu, hlg, hb⟩ := hrel
    have HLG := Lib.hid hlg
    have HB := Lib.hid hb
    have HKI2 := Lib.hid hki
    clear hlg hb
    by_cases hp : pos < s.size
    · obtain ⟨f, rfl⟩ : ∃ f, fuel = f + 1 := ⟨fuel - 1, by omega⟩
      have hnx : ∀ ty, (Instr.next (.pointer (some ⟨w.heap.size + 1 + 1, 0, none⟩)) true ty).run Tryz.prog wr = _ := fun ty => Lib.run_next_any_at wr (w.heap.size + 1 + 1) s pos ty hki hp
      have hwd := Lib.width_pos s pos
      have hwe := Utf8_end s pos hp
      have hsm := decode_small s pos
      have HST := Lib.hid (lettersGo_step (f := f) hp)
      have hbx := Lib.below_iterAt HB.out (k := w.heap.size + 1 + 1) (by omega) s (pos + (Utf8.decode s pos).2)
      have hkx := Lib.iterAt_heap wr (w.heap.size + 1 + 1) s pos (pos + (Utf8.decode s pos).2) hki
      have henv := HE.out.below hbx
      have HCALL := Lib.hid (Tryz.unicode_IsLetter_any letterT ((Utf8.decode s pos).1 : Nat) (wr.iterAt (w.heap.size + 1 + 1) s (pos + (Utf8.decode s pos).2)) (by omega) (by omega) henv.props henv.letters Lib.letterT_ok)
      obtain ⟨lb, hlb⟩ : ∃ lb, lb = letterB (Utf8.decode s pos).1 := ⟨_, rfl⟩
      have HLB := Lib.hid hlb
      have HBX := Lib.hid hbx
      have HKX := Lib.hid hkx
      clear hki hbx hkx henv hlb
      go_wp2_with fail
      refine HCALL.out.mono ?_
      rintro e w3 ⟨rfl, hb3⟩
      have hk3 := (hb3.block (w.heap.size + 1 + 1) (Array.getElem?_eq_some_iff.1 HKX.out).1).trans HKX.out
      have HB3 := Lib.hid (HBX.out.trans (hb3.mono HBX.out.size))
      have HK3 := Lib.hid hk3
      rw [show (if Lib.latin1 ((Utf8.decode s pos).1 : Int) = true then Lib.isLetterL ((Utf8.decode s pos).1 : Int) else Lib.exclGo letterT ((Utf8.decode s pos).1 : Int)) = lb from HLB.out.symm]
      clear hb3 hk3
      cases lb with
      | false =>
        go_wp2_with fail
        go_ret
        exact ⟨ret_bool (by rw [← HLG.out, HST.out, ← HLB.out]; rfl), HB3.out⟩
      | true =>
        go_wp2_with fail
        go_roundw
        case rel => exact ⟨pos + (Utf8.decode s pos).2, f, HK3.out, by omega, by omega, by rw [← HLG.out, HST.out, ← HLB.out]; rfl, HB3.out⟩
        case measure =>
          rw [itPos_of HK3.out, itPos_of HKI2.out]
          omega
    · have hnx : ∀ ty, (Instr.next (.pointer (some ⟨w.heap.size + 1 + 1, 0, none⟩)) true ty).run Tryz.prog wr = _ := fun ty => Lib.run_next_end_at wr (w.heap.size + 1 + 1) s pos ty hki hp
      have HEN := Lib.hid (lettersGo_end (f := fuel) hp)
      clear hki
      go_wp2_with fail
      go_ret
      exact ⟨ret_bool (by rw [← HLG.out, HEN.out]), HB.out⟩
end Go.Proofs.YtiebedcldbmlhaaGreatDoor
