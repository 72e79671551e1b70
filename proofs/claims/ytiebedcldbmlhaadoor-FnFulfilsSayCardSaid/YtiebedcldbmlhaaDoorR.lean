/-
  CheckConstraint at the kinds 1, 3, 4 and 5. Conditions: the package-level errors and tables are laid; a value that is no hexadecimal number, at the kind 4.
-/
import Derived.Test.YtiebedcldbmlhaaDoorG
import Derived.Test.YtiebedcldbmlhaaDoorFV
import Derived.Shelf.Unicode.PredsAny
import Derived.Laws.RangeAny
import Derived.Lib.TrimU
import Derived.Lib.OthersKept
namespace Go.Proofs.YtiebedcldbmlhaaDoor
open Go.RowKit
open Go.Lib (RVar letterT RgTab RTab)
set_option linter.unusedVariables false

theorem kept_cell {w w' : World} (hb : Below w.heap.size w w') {a : Addr} {v : Value} (hc : w.cell? a = some v) : w'.cell? a = some v := (hb.cell (World.block_lt_of_cell? w a hc)).trans hc
theorem rvar_below {g : Nat} {T : Lib.RTab} {w w' : World} (h : RVar g T w) (hb : Below w.heap.size w w') : RVar g T w' := by
  obtain ⟨Tb, oT, hp, a16, a32, R16, o16, c16, R32, o32, c32, k0, k1, k2, h1, h2, t1, t2, hc⟩ := h
  exact ⟨Tb, oT, kept_cell hb hp, a16, a32, R16, o16, c16, R32, o32, c32, kept_cell hb k0, kept_cell hb k1, kept_cell hb k2, h1, h2, RgTab_below t1 hb, RgTab_below t2 hb, hc⟩
theorem tabIs_below {n : String} {g : Nat} {k : IntKind} {zs : List Int} {w w' : World} (hg : Tryd.prog.globalNamed n = some g) (h : Lib.TabIs Tryd.prog w n k zs) (hb : Below w.heap.size w w') : Lib.TabIs Tryd.prog w' n k zs := by
  unfold Lib.TabIs World.var? at h ⊢
  rw [hg] at h ⊢
  simp only [Option.bind_some] at h ⊢
  have hlt : g < w.heap.size := by
    rcases Nat.lt_or_ge g w.heap.size with h' | h'
    · exact h'
    · rw [Array.getElem?_eq_none h'] at h; cases h
  rw [hb.block g hlt]
  exact h
/-- What the package-level variables hold that constraints read. -/
structure EnvF (T : Nat → Nat × Nat) (B : Nat) (w : World) : Prop where
  env : Env w
  props : Lib.TabIs Tryd.prog w "unicode.properties" .u8 Lib.propertiesTab
  letters : RVar 1 letterT w
  flt : Fl.AEnv T w B
theorem gProps : Tryd.prog.globalNamed "unicode.properties" = some 0 := by kernel_rfl
theorem EnvF.below {T : Nat → Nat × Nat} {B : Nat} {w w' : World} (h : EnvF T B w) (hb : Below w.heap.size w w') : EnvF T B w' :=
  ⟨h.env.below hb h.env.size, tabIs_below gProps h.props hb, rvar_below h.letters hb, h.flt.below hb h.flt.size⟩
theorem EnvF.eenv {T : Nat → Nat × Nat} {B : Nat} {w : World} (h : EnvF T B w) : Fl.EEnv w :=
  ⟨h.env.e2, h.env.e3, by have := h.env.size; omega, by have := h.env.size; omega⟩
theorem iter_below (w : World) (s : ByteArray) (p : Nat) : Below w.heap.size w (w.iter s p) := (Below.refl _ _).alloc (Nat.le_refl _) _
theorem Utf8_end (s : ByteArray) (pos : Nat) (h : pos < s.size) : pos + (Utf8.decode s pos).2 ≤ s.size := by
  have hb : ∀ k, (s.get! (pos + k)).toNat < 256 := fun k => (s.get! (pos + k)).toNat_lt
  simp only [Utf8.decode]
  repeat' split
  all_goals simp_all
  all_goals omega

set_option maxHeartbeats 2000000 in
set_option maxRecDepth 100000 in
theorem check3 (bp o : Nat) (s : ByteArray) (w : World) (hE : Env w) (hs : s.size ≤ 140737488351232)
    (c0 : w.cell? ⟨bp, o, none⟩ = some (.int .i16 3)) :
    Calls Tryd.prog 11 #[.pointer (some ⟨bp, o, none⟩), .string s] w fun e w' => e = .returned (.bool (Lib.parseBool s.data.toList).isSome) ∧ Below w.heap.size w w' := by
  have hb1 := cell_lt c0
  obtain ⟨te, pe, hv⟩ := hE.e2
  have hsz := hE.size
  go_enter Tryd.func11, Tryd.ntmps11
  go_wp2
  refine wp_loop_rounds 8 ?_
  iterate 8 (rw [rounds_succ]; go_wp2)
  refine wp_loop_rounds 3 ?_
  iterate 2 (rw [rounds_succ]; go_wp2)
  rw [rounds_succ]
  go_wp2_with fail
  cases hp : Lib.parseBool s.data.toList with
  | some b =>
    refine (Tryd.strconv_ParseBool s b hp _).mono ?_
    rintro e w1 ⟨rfl, rfl⟩
    have HP := Lib.hid hp
    clear hp
    go_wp2
    all_goals
      go_ret
      exact ⟨ret_bool (by rw [HP.out]; rfl), below_two w _ _⟩
  | none =>
    refine (Tryd.strconv_ParseBool_err s (by omega) hp _ _ (((below_two w _ _).cell (p := ⟨2, 0, none⟩) (show 2 < w.heap.size by omega)).trans hv) (.inr ⟨te, pe, rfl⟩)).mono ?_
    rintro e w1 ⟨N, rfl, _, _, hb⟩
    have hB1 := (below_two w _ _).trans (hb.mono (Nat.le_trans (below_two w _ _).size (Nat.le_refl _)))
    have HB1 := Lib.hid hB1
    have HP := Lib.hid hp
    have hnil := nil_ne N
    clear hb hB1 hp
    go_wp2
    all_goals
      go_ret
      exact ⟨ret_bool (by rw [HP.out]; rfl), HB1.out⟩

/-- Where an iterator stands. -/
def itPos (w : World) (k : Nat) : Nat := match w.heap[k]? with
  | some (.stringIter _ p) => p
  | _ => 0
theorem itPos_of {w : World} {k : Nat} {s : ByteArray} {p : Nat} (h : w.heap[k]? = some (.stringIter s p)) : itPos w k = p := by unfold itPos; rw [h]
/-- Whether a sign is a letter; whether all signs from a place on are. -/
def letterB (r : Int) : Bool := if Lib.latin1 r then Lib.isLetterL r else Lib.exclGo letterT r
def lettersGo (s : ByteArray) : Nat → Nat → Bool
  | 0, _ => true
  | f + 1, pos => if pos < s.size then letterB (Utf8.decode s pos).1 && lettersGo s f (pos + (Utf8.decode s pos).2) else true
theorem lettersGo_end {s : ByteArray} {f pos : Nat} (h : ¬ pos < s.size) : lettersGo s f pos = true := by
  cases f with
  | zero => rfl
  | succ f => unfold lettersGo; rw [if_neg h]
theorem lettersGo_step {s : ByteArray} {f pos : Nat} (h : pos < s.size) : lettersGo s (f + 1) pos = (letterB (Utf8.decode s pos).1 && lettersGo s f (pos + (Utf8.decode s pos).2)) := by
  conv => lhs; unfold lettersGo
  rw [if_pos h]
theorem decode_small (s : ByteArray) (pos : Nat) : (Utf8.decode s pos).1 ≤ 2147483647 := by
  have hb : ∀ k, (s.get! (pos + k)).toNat < 256 := fun k => (s.get! (pos + k)).toNat_lt
  have hb0 := hb 0
  have hb1 := hb 1
  have hb2 := hb 2
  have hb3 := hb 3
  simp only [Utf8.decode]
  repeat' split
  all_goals first | omega | decide

set_option maxHeartbeats 2000000 in
set_option maxRecDepth 100000 in
theorem check5 (T : Nat → Nat × Nat) (B : Nat) (bp o : Nat) (s : ByteArray) (w : World) (hE : EnvF T B w) (hs : s.size ≤ 140737488351232)
    (c0 : w.cell? ⟨bp, o, none⟩ = some (.int .i16 5)) :
    Calls Tryd.prog 11 #[.pointer (some ⟨bp, o, none⟩), .string s] w fun e w' => e = .returned (.bool (lettersGo s s.size 0)) ∧ Below w.heap.size w w' := by
  have hb1 := cell_lt c0
  have HE := Lib.hid hE
  clear hE
  go_enter Tryd.func11, Tryd.ntmps11
  go_wp2
  refine wp_loop_rounds 8 ?_
  iterate 8 (rw [rounds_succ]; go_wp2)
  refine wp_loop_rounds 3 ?_
  iterate 2 (rw [rounds_succ]; go_wp2)
  rw [rounds_succ]
  go_wp2_with fail
  obtain ⟨W2, hW2⟩ : ∃ W2, W2 = ((w.alloc (Obj.cells #[Value.int IntKind.i16 8, Value.int IntKind.i16 9, Value.int IntKind.i16 10, Value.int IntKind.i16 12, Value.int IntKind.i16 13, Value.int IntKind.i16 6, Value.int IntKind.i16 15] 35)).alloc (Obj.cells #[Value.int IntKind.i16 11, Value.int IntKind.i16 14] 35)) := ⟨_, rfl⟩
  rw [← hW2]
  have hb2 : Below w.heap.size w W2 := by rw [hW2]; exact below_two w _ _
  have hz2 : W2.heap.size = w.heap.size + 1 + 1 := by rw [hW2]; simp
  have hbi : Below w.heap.size w (W2.iter s 0) := hb2.trans ((iter_below W2 s 0).mono hb2.size)
  have hki : (W2.iter s 0).heap[w.heap.size + 1 + 1]? = some (.stringIter s 0) := by
    rw [← hz2]
    show (W2.heap.push _)[W2.heap.size]? = _
    simp
  have HBI := Lib.hid hbi
  have HKI := Lib.hid hki
  clear hW2 hb2 hz2 hbi hki
  go_loopw [14] (fun _ wr => ∃ pos fuel : Nat, wr.heap[w.heap.size + 1 + 1]? = some (.stringIter s pos) ∧ pos ≤ s.size ∧ s.size - pos ≤ fuel ∧ lettersGo s fuel pos = lettersGo s s.size 0 ∧ Below w.heap.size w wr) (fun _ wr => s.size - itPos wr (w.heap.size + 1 + 1))
  case atStart => exact ⟨0, s.size, HKI.out, Nat.zero_le _, by omega, rfl, HBI.out⟩
  case round =>
    obtain ⟨pos, fuel, hki, hps, hfu, hlg, hb⟩ := hrel
    have HLG := Lib.hid hlg
    have HB := Lib.hid hb
    have HKI2 := Lib.hid hki
    clear hlg hb
    by_cases hp : pos < s.size
    · obtain ⟨f, rfl⟩ : ∃ f, fuel = f + 1 := ⟨fuel - 1, by omega⟩
      have hnx : ∀ ty, (Instr.next (.pointer (some ⟨w.heap.size + 1 + 1, 0, none⟩)) true ty).run Tryd.prog wr = _ := fun ty => Lib.run_next_any_at wr (w.heap.size + 1 + 1) s pos ty hki hp
      have hwd := Lib.width_pos s pos
      have hwe := Utf8_end s pos hp
      have hsm := decode_small s pos
      have HST := Lib.hid (lettersGo_step (f := f) hp)
      have hbx := Lib.below_iterAt HB.out (k := w.heap.size + 1 + 1) (by omega) s (pos + (Utf8.decode s pos).2)
      have hkx := Lib.iterAt_heap wr (w.heap.size + 1 + 1) s pos (pos + (Utf8.decode s pos).2) hki
      have henv := HE.out.below hbx
      have HCALL := Lib.hid (Tryd.unicode_IsLetter_any letterT ((Utf8.decode s pos).1 : Nat) (wr.iterAt (w.heap.size + 1 + 1) s (pos + (Utf8.decode s pos).2)) (by omega) (by omega) henv.props henv.letters Lib.letterT_ok)
      obtain ⟨lb, hlb⟩ : ∃ lb, lb = letterB (Utf8.decode s pos).1 := ⟨_, rfl⟩
      have HLB := Lib.hid hlb
      have HBX := Lib.hid hbx
      have HKX := Lib.hid hkx
      clear hki hbx hkx henv hlb
      go_wp2_with fail
      refine HCALL.out.mono ?_
      rintro e w3 ⟨rfl, hb3⟩
      have hk3 := (hb3.block (w.heap.size + 1 + 1) (Array.getElem?_eq_some_iff.1 HKX.out).1).trans HKX.out
      have HB3 := Lib.hid (HBX.out.trans (hb3.mono HBX.out.size))
      have HK3 := Lib.hid hk3
      rw [show (if Lib.latin1 ((Utf8.decode s pos).1 : Int) = true then Lib.isLetterL ((Utf8.decode s pos).1 : Int) else Lib.exclGo letterT ((Utf8.decode s pos).1 : Int)) = lb from HLB.out.symm]
      clear hb3 hk3
      cases lb with
      | false =>
        go_wp2_with fail
        go_ret
        exact ⟨ret_bool (by rw [← HLG.out, HST.out, ← HLB.out]; rfl), HB3.out⟩
      | true =>
        go_wp2_with fail
        go_roundw
        case rel => exact ⟨pos + (Utf8.decode s pos).2, f, HK3.out, by omega, by omega, by rw [← HLG.out, HST.out, ← HLB.out]; rfl, HB3.out⟩
        case measure =>
          rw [itPos_of HK3.out, itPos_of HKI2.out]
          omega
    · have hnx : ∀ ty, (Instr.next (.pointer (some ⟨w.heap.size + 1 + 1, 0, none⟩)) true ty).run Tryd.prog wr = _ := fun ty => Lib.run_next_end_at wr (w.heap.size + 1 + 1) s pos ty hki hp
      have HEN := Lib.hid (lettersGo_end (f := fuel) hp)
      clear hki
      go_wp2_with fail
      go_ret
      exact ⟨ret_bool (by rw [← HLG.out, HEN.out]), HB.out⟩

set_option maxHeartbeats 2000000 in
set_option maxRecDepth 100000 in
theorem check1 (bp o : Nat) (s : ByteArray) (w : World)
    (c0 : w.cell? ⟨bp, o, none⟩ = some (.int .i16 1)) :
    Calls Tryd.prog 11 #[.pointer (some ⟨bp, o, none⟩), .string s] w fun e w' => e = .returned (.bool true) ∧ Below w.heap.size w w' := by
  have hb1 := cell_lt c0
  go_enter Tryd.func11, Tryd.ntmps11
  go_wp2
  refine wp_loop_rounds 8 ?_
  iterate 8 (rw [rounds_succ]; go_wp2)
  refine wp_loop_rounds 3 ?_
  iterate 2 (rw [rounds_succ]; go_wp2)
  rw [rounds_succ]
  go_wp2_with fail
  go_ret
  exact ⟨rfl, below_two w _ _⟩

set_option maxHeartbeats 2000000 in
set_option maxRecDepth 100000 in
theorem check4 (T : Nat → Nat × Nat) (B : Nat) (X : Bool) (bp o : Nat) (s : ByteArray) (w : World) (hE : EnvF T B w) (hs : s.size ≤ 1000000000) (hX : Fl.OkF T (Fl.ns s) → X = true) (hN : Fl.NoF T (Fl.ns s) → X = false) (hnx : ∀ r, Fl.readF (Fl.ns s) = some r → r.hx = false)
    (c0 : w.cell? ⟨bp, o, none⟩ = some (.int .i16 4)) :
    Calls Tryd.prog 11 #[.pointer (some ⟨bp, o, none⟩), .string s] w fun e w' => e = .returned (.bool X) ∧ Below w.heap.size w w' := by
  have hb1 := cell_lt c0
  have HE := Lib.hid hE
  have HX := Lib.hid hX
  have HN := Lib.hid hN
  have HNX := Lib.hid hnx
  clear hE hX hN hnx
  go_enter Tryd.func11, Tryd.ntmps11
  go_wp2
  refine wp_loop_rounds 8 ?_
  iterate 8 (rw [rounds_succ]; go_wp2)
  refine wp_loop_rounds 3 ?_
  iterate 2 (rw [rounds_succ]; go_wp2)
  rw [rounds_succ]
  go_wp2_with fail
  refine (Fl.spf_dec T B s _ hs (HE.out.below (below_two _ _ _)).flt (HE.out.below (below_two _ _ _)).eenv HNX.out).mono ?_
  rintro e w1 ⟨fb, ev, rfl, herr, hb⟩
  have hB1 := (below_two w _ _).trans (hb.mono (Nat.le_trans (below_two w _ _).size (Nat.le_refl _)))
  have HB1 := Lib.hid hB1
  clear hb hB1
  rcases herr with ⟨rfl, hok⟩ | ⟨hno, N, rfl⟩
  · have hx : X = true := HX.out hok
    subst hx
    clear hok
    go_wp2_with fail
    go_ret
    exact ⟨rfl, HB1.out⟩
  · have hx : X = false := HN.out hno
    subst hx
    have hnil := nil_ne N
    clear hno
    go_wp2_with fail
    go_ret
    exact ⟨rfl, HB1.out⟩
end Go.Proofs.YtiebedcldbmlhaaDoor
