/-
  CheckConstraint at the kinds 3 and 5. Conditions: the package-level errors hold interface values, the letters' table is laid.
-/
import Derived.Test.YtiebedcldbmlhaaGreatDoorCA
import Derived.Lib.OthersKept
namespace Go.Proofs.YtiebedcldbmlhaaGreatDoor
open Go.RowKit
open Go.Lib (RVar letterT RgTab RTab)
set_option linter.unusedVariables false

set_option maxHeartbeats 2000000 in
set_option maxRecDepth 100000 in
theorem check3 (bp o : Nat) (s : ByteArray) (w : World) (hE : EnvC w) (hs : s.size ≤ 140737488351232)
    (c0 : w.cell? ⟨bp, o, none⟩ = some (.int .i16 3)) :
    Calls Tryz.prog 34 #[.pointer (some ⟨bp, o, none⟩), .string s] w fun e w' => e = .returned (.bool (Lib.parseBool s.data.toList).isSome) ∧ Below w.heap.size w w' := by
  have hb1 := cell_lt c0
  obtain ⟨te, pe, hv⟩ := hE.e2
  have hsz := hE.size
  go_enter Tryz.func34, Tryz.ntmps34
  go_wp2
  refine wp_loop_rounds 8 ?_
  iterate 8 (rw [rounds_succ]; go_wp2)
  refine wp_loop_rounds 3 ?_
  iterate 2 (rw [rounds_succ]; go_wp2)
  rw [rounds_succ]
  go_wp2_with fail
  cases hp : Lib.parseBool s.data.toList with
  | some b =>
    refine (Tryz.strconv_ParseBool s b hp _).mono ?_
    rintro e w1 ⟨rfl, rfl⟩
    have HP := Lib.hid hp
    clear hp
    go_wp2
    all_goals
      go_ret
      exact ⟨ret_bool (by rw [HP.out]; rfl), below_two w _ _⟩
  | none =>
    refine (Tryz.strconv_ParseBool_err s (by omega) hp _ _ (((below_two w _ _).cell (p := ⟨2, 0, none⟩) (show 2 < w.heap.size by omega)).trans hv) (.inr ⟨te, pe, rfl⟩)).mono ?_
    rintro e w1 ⟨N, rfl, _, _, hb⟩
    have hB1 := (below_two w _ _).trans (hb.mono (Nat.le_trans (below_two w _ _).size (Nat.le_refl _)))
    have HB1 := Lib.hid hB1
    have HP := Lib.hid hp
    have hnil := nil_ne N
    clear hb hB1 hp
    go_wp2
    all_goals
      go_ret
      exact ⟨ret_bool (by rw [HP.out]; rfl), HB1.out⟩

/-- Where an iterator stands. -/
def itPos (w : World) (k : Nat) : Nat := match w.heap[k]? with
  | some (.stringIter _ p) => p
  | _ => 0
theorem itPos_of {w : World} {k : Nat} {s : ByteArray} {p : Nat} (h : w.heap[k]? = some (.stringIter s p)) : itPos w k = p := by unfold itPos; rw [h]
/-- Whether a sign is a letter; whether all signs from a place on are. -/
def letterB (r : Int) : Bool := if Lib.latin1 r then Lib.isLetterL r else Lib.exclGo letterT r
def lettersGo (s : ByteArray) : Nat → Nat → Bool
  | 0, _ => true
  | f + 1, pos => if pos < s.size then letterB (Utf8.decode s pos).1 && lettersGo s f (pos + (Utf8.decode s pos).2) else true
theorem lettersGo_end {s : ByteArray} {f pos : Nat} (h : ¬ pos < s.size) : lettersGo s f pos = true := by
  cases f with
  | zero => rfl
  | succ f => unfold lettersGo; rw [if_neg h]
theorem lettersGo_step {s : ByteArray} {f pos : Nat} (h : pos < s.size) : lettersGo s (f + 1) pos = (letterB (Utf8.decode s pos).1 && lettersGo s f (pos + (Utf8.decode s pos).2)) := by
  conv => lhs; unfold lettersGo
  rw [if_pos h]
theorem decode_small (s : ByteArray) (pos : Nat) : (Utf8.decode s pos).1 ≤ 2147483647 := by
  have hb : ∀ k, (s.get! (pos + k)).toNat < 256 := fun k => (s.get! (pos + k)).toNat_lt
  have hb0 := hb 0
  have hb1 := hb 1
  have hb2 := hb 2
  have hb3 := hb 3
  simp only [Utf8.decode]
  repeat' split
  all_goals first | omega | decide

set_option maxHeartbeats 2000000 in
set_option maxRecDepth 100000 in
theorem check5 (bp o : Nat) (s : ByteArray) (w : World) (hE : EnvC w) (hs : s.size ≤ 140737488351232)
    (c0 : w.cell? ⟨bp, o, none⟩ = some (.int .i16 5)) :
    Calls Tryz.prog 34 #[.pointer (some ⟨bp, o, none⟩), .string s] w fun e w' => e = .returned (.bool (lettersGo s s.size 0)) ∧ Below w.heap.size w w' := by
  have hb1 := cell_lt c0
  have HE := Lib.hid hE
  clear hE
  go_enter Tryz.func34, Tryz.ntmps34
  go_wp2
  refine wp_loop_rounds 8 ?_
  iterate 8 (rw [rounds_succ]; go_wp2)
  refine wp_loop_rounds 3 ?_
  iterate 2 (rw [rounds_succ]; go_wp2)
  rw [rounds_succ]
  go_wp2_with fail
  obtain ⟨W2, hW2⟩ : ∃ W2, W2 = ((w.alloc (Obj.cells #[Value.int IntKind.i16 8, Value.int IntKind.i16 9, Value.int IntKind.i16 10, Value.int IntKind.i16 12, Value.int IntKind.i16 13, Value.int IntKind.i16 6, Value.int IntKind.i16 15] 64)).alloc (Obj.cells #[Value.int IntKind.i16 11, Value.int IntKind.i16 14] 64)) := ⟨_, rfl⟩
  rw [← hW2]
  have hb2 : Below w.heap.size w W2 := by rw [hW2]; exact below_two w _ _
  have hz2 : W2.heap.size = w.heap.size + 1 + 1 := by rw [hW2]; simp
  have hbi : Below w.heap.size w (W2.iter s 0) := hb2.trans ((iter_below W2 s 0).mono hb2.size)
  have hki : (W2.iter s 0).heap[w.heap.size + 1 + 1]? = some (.stringIter s 0) := by
    rw [← hz2]
    show (W2.heap.push _)[W2.heap.size]? = _
    simp
  have HBI := Lib.hid hbi
  have HKI := Lib.hid hki
  clear hW2 hb2 hz2 hbi hki
  go_loopw [14] (fun _ wr => ∃ pos fuel : Nat, wr.heap[w.heap.size + 1 + 1]? = some (.stringIter s pos) ∧ pos ≤ s.size ∧ s.size - pos ≤ fuel ∧ lettersGo s fuel pos = lettersGo s s.size 0 ∧ Below w.heap.size w wr) (fun _ wr => s.size - itPos wr (w.heap.size + 1 + 1))
  case atStart => exact ⟨0, s.size, HKI.out, Nat.zero_le _, by omega, rfl, HBI.out⟩
  case round =>
    obtain ⟨pos, fuel, hki, hps, hfu, hlg, hb⟩ := hrel
    have HLG := Lib.hid hlg
    have HB := Lib.hid hb
    have HKI2 := Lib.hid hki
    clear hlg hb
    by_cases hp : pos < s.size
    · obtain ⟨f, rfl⟩ : ∃ f, fuel = f + 1 := ⟨fuel - 1, by omega⟩
      have hnx : ∀ ty, (Instr.next (.pointer (some ⟨w.heap.size + 1 + 1, 0, none⟩)) true ty).run Tryz.prog wr = _ := fun ty => Lib.run_next_any_at wr (w.heap.size + 1 + 1) s pos ty hki hp
      have hwd := Lib.width_pos s pos
      have hwe := Utf8_end s pos hp
      have hsm := decode_small s pos
      have HST := Lib.hid (lettersGo_step (f := f) hp)
      have hbx := Lib.below_iterAt HB.out (k := w.heap.size + 1 + 1) (by omega) s (pos + (Utf8.decode s pos).2)
      have hkx := Lib.iterAt_heap wr (w.heap.size + 1 + 1) s pos (pos + (Utf8.decode s pos).2) hki
      have henv := HE.out.below hbx
      have HCALL := Lib.hid (Tryz.unicode_IsLetter_any letterT ((Utf8.decode s pos).1 : Nat) (wr.iterAt (w.heap.size + 1 + 1) s (pos + (Utf8.decode s pos).2)) (by omega) (by omega) henv.props henv.letters Lib.letterT_ok)
      obtain ⟨lb, hlb⟩ : ∃ lb, lb = letterB (Utf8.decode s pos).1 := ⟨_, rfl⟩
      have HLB := Lib.hid hlb
      have HBX := Lib.hid hbx
      have HKX := Lib.hid hkx
      clear hki hbx hkx henv hlb
      go_wp2_with fail
      refine HCALL.out.mono ?_
      rintro e w3 ⟨rfl, hb3⟩
      have hk3 := (hb3.block (w.heap.size + 1 + 1) (Array.getElem?_eq_some_iff.1 HKX.out).1).trans HKX.out
      have HB3 := Lib.hid (HBX.out.trans (hb3.mono HBX.out.size))
      have HK3 := Lib.hid hk3
      rw [show (if Lib.latin1 ((Utf8.decode s pos).1 : Int) = true then Lib.isLetterL ((Utf8.decode s pos).1 : Int) else Lib.exclGo letterT ((Utf8.decode s pos).1 : Int)) = lb from HLB.out.symm]
      clear hb3 hk3
      cases lb with
      | false =>
        go_wp2_with fail
        go_ret
        exact ⟨ret_bool (by rw [← HLG.out, HST.out, ← HLB.out]; rfl), HB3.out⟩
      | true =>
        go_wp2_with fail
        go_roundw
        case rel => exact ⟨pos + (Utf8.decode s pos).2, f, HK3.out, by omega, by omega, by rw [← HLG.out, HST.out, ← HLB.out]; rfl, HB3.out⟩
        case measure =>
          rw [itPos_of HK3.out, itPos_of HKI2.out]
          omega
    · have hnx : ∀ ty, (Instr.next (.pointer (some ⟨w.heap.size + 1 + 1, 0, none⟩)) true ty).run Tryz.prog wr = _ := fun ty => Lib.run_next_end_at wr (w.heap.size + 1 + 1) s pos ty hki hp
      have HEN := Lib.hid (lettersGo_end (f := fuel) hp)
      clear hki
      go_wp2_with fail
      go_ret
      exact ⟨ret_bool (by rw [← HLG.out, HEN.out]), HB.out⟩
end Go.Proofs.YtiebedcldbmlhaaGreatDoor
