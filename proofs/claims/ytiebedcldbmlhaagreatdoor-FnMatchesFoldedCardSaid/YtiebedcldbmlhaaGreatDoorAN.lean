/-
  ToLower and low: the great letters of a text made small ones. Conditions: of a size that addresses allow.
-/
import Derived.Test.YtiebedcldbmlhaaGreatDoorAM
import Derived.Lib.BufferWrite
namespace Go.Proofs.YtiebedcldbmlhaaGreatDoor
open Go.RowKit
set_option linter.unusedVariables false

/-- A byte made small. -/
def lowB (c : UInt8) : UInt8 := if 65 ≤ c ∧ c ≤ 90 then c + 32 else c
def lowL (l : Bs) : Bs := l.map lowB
/-- The first k made small. -/
def lowTo (l : Bs) (k : Nat) : Bs := lowL (l.take k) ++ l.drop k
theorem lowTo_len (l : Bs) (k : Nat) : (lowTo l k).length = l.length := by simp [lowTo, lowL]; omega
theorem lowTo_at {l : Bs} {k : Nat} (h : k < l.length) : (lowTo l k)[k]? = some l[k] := by
  unfold lowTo lowL
  rw [List.getElem?_append_right (by simp; omega)]
  simp [Nat.min_eq_left (Nat.le_of_lt h), h]
theorem lowTo_set {l : Bs} {k : Nat} (h : k < l.length) : (lowTo l k).set k (lowB l[k]) = lowTo l (k + 1) := by
  unfold lowTo lowL
  rw [List.set_append_right _ _ (by simp; omega), List.take_succ_eq_append_getElem h, List.map_append]
  have : k - ((l.take k).map lowB).length = 0 := by simp; omega
  rw [this]
  have hd : (l.drop k) = l[k] :: l.drop (k + 1) := List.drop_eq_getElem_cons h
  rw [hd, List.set_cons_zero, List.append_assoc]
  rfl
theorem lowTo_all (l : Bs) : lowTo l l.length = lowL l := by simp [lowTo]

/-- A table of the bytes made small, read. -/
theorem tab_low {T : ByteArray} (hall : ((List.range 256).all fun n => T.data.toList[n]? == some (lowB (UInt8.ofNat n))) = true) (c : UInt8) (h : c.toNat < T.size) : T[c.toNat]'h = lowB c := by
  rw [List.all_eq_true] at hall
  have h1 := hall c.toNat (List.mem_range.2 c.toNat_lt)
  rw [beq_iff_eq, byte_at T c.toNat h, UInt8.ofNat_toNat] at h1
  exact Option.some.inj h1

theorem byteCells_set (l : Bs) (k : Nat) (c : UInt8) : (Lib.byteCells l).set k (.int .u8 c.toNat) = Lib.byteCells (l.set k c) := by
  unfold Lib.byteCells
  rw [List.map_set]

set_option maxHeartbeats 1000000 in
set_option maxRecDepth 100000 in
theorem toLower_any (s : ByteArray) (w : World) (hs : s.size ≤ 140737488351232) :
    Calls Tryz.prog 49 #[.string s] w fun e w' => e = .returned (.string (bs (lowL s.data.toList))) ∧ Below w.heap.size w w' := by
  obtain ⟨i0, hi, hz0, hz1, hz2⟩ := info_parts info5
  have hinfo : (Tryz.prog.info? 5).map (·.size) = some 1 := by rw [hi]; simp [hz1]
  obtain ⟨M, hM⟩ : ∃ M, M = madeCells (Value.int .u8 0).cells (((s.size : Nat) : Int).toNat * i0.size) := ⟨_, rfl⟩
  have hMs : M.size = s.size := by rw [hM, size_madeCells, hz1]; simp
  have hmk : ∀ W : World, (Instr.makeSlice 23 (.int .i64 (s.size : Int)) (.int .i64 (s.size : Int))).run Tryz.prog W = .ok (.slice (some ⟨W.heap.size, 0, none⟩) s.size s.size) (W.alloc (.cells M 5)) := fun W => by
    have h := run_make (P := Tryz.prog) W 23 5 i0 (.int .u8 0) Tryz.underlying23 hi hz0 .i64 .i64 (s.size : Int) (s.size : Int) (by omega) (by omega) (by rw [hz2]; omega) (by omega)
    rw [← hM] at h
    simpa using h
  have hcp := Lib.run_copy_row_string (P := Tryz.prog) (w.alloc (.cells M 5)) 23 9 3 5 w.heap.size 0 s.size s.size s M 5 Tryz.underlying23 hinfo (heap_alloc_new w _) (Nat.le_refl _) (by omega)
  obtain ⟨Y, hY⟩ : ∃ Y, Y = (M.toList.take 0 ++ Lib.byteCells s.data.toList ++ M.toList.drop (0 + s.size)).toArray := ⟨_, rfl⟩
  rw [← hY] at hcp
  have hYl : Y.toList = Lib.byteCells s.data.toList := by
    rw [hY, List.toList_toArray, List.take_zero, List.nil_append, List.drop_of_length_le (by rw [Array.length_toList]; omega), List.append_nil]
  clear hM hY
  go_enter Tryz.func49, Tryz.ntmps49
  have hgY : ((w.alloc (.cells M 5)).setRow w.heap.size Y).heap[w.heap.size]? = some (.cells Y 5 (0, 0)) := setRow_heap _ _ M _ 5 (0, 0) (heap_alloc_new w _)
  have hb2 : Below w.heap.size w ((w.alloc (.cells M 5)).setRow w.heap.size Y) := ((Below.refl _ w).alloc (Nat.le_refl _) _).trans ⟨rfl, rfl, rfl, by simp, fun k hk => setRow_other _ _ _ _ (by omega)⟩
  have HGY := Lib.hid hgY
  have HB2 := Lib.hid hb2
  have HYL := Lib.hid hYl
  clear hgY hb2 hYl
  go_wp2_with fail
  go_loopw [4] (fun i wr => ∃ k : Nat, k ≤ s.size ∧ i = .int .i64 k ∧ wr.heap[w.heap.size]? = some (.cells (Lib.byteCells (lowTo s.data.toList k)).toArray 5 (0, 0)) ∧ Below w.heap.size w wr) (fun i _ => s.size - (intOf i).toNat)
  case atStart => exact ⟨0, Nat.zero_le _, rfl, by rw [HGY.out]; have : lowTo s.data.toList 0 = s.data.toList := by simp [lowTo, lowL]
                                                   rw [this, ← HYL.out], HB2.out⟩
  case round =>
    obtain ⟨k, hk, rfl, hg, hb⟩ := hrel
    have HB := Lib.hid hb
    have HG := Lib.hid hg
    clear hb hg
    by_cases hlt : k < s.size
    · have hkl : k < s.data.toList.length := by rw [size_data]; exact hlt
      have hc : wr.cell? ⟨w.heap.size, k, none⟩ = some (.int .u8 (s.data.toList[k]'hkl).toNat) := by
        refine obj_cell HG.out ?_
        simp [Lib.byteCells, lowTo_at hkl]
      have hfr := obj_free (i := k) HG.out
      obtain ⟨c, hcd⟩ : ∃ c, c = s.data.toList[k]'hkl := ⟨_, rfl⟩
      rw [← hcd] at hc
      have HC := Lib.hid hcd
      clear hcd
      have h256 : (c.toNat : Int) < 256 := by have := c.toNat_lt; omega
      have h256n : c.toNat < 256 := c.toNat_lt
      go_wp2_with fail
      rw [tab_low (by decide +kernel) c]
      refine ⟨⟨k + 1, by omega, by go_num, ?_, HB.out.setCell (p := ⟨w.heap.size, k, none⟩) (Nat.le_refl _) _⟩, by simp [intOf]; omega⟩
      have h1 := obj_set (i := k) (.int .u8 (lowB c).toNat) HG.out
      rw [List.setIfInBounds_toArray, byteCells_set, HC.out, lowTo_set hkl] at h1
      rw [HC.out]
      exact h1
    · obtain rfl : k = s.size := by omega
      have hconv := run_convert_bytes_back (P := Tryz.prog) wr 23 9 5 ⟨w.heap.size, 0, none⟩ s.size (lowTo s.data.toList s.size) Tryz.underlying23 (by kernel_rfl) (by kernel_rfl) (fun j hj => by
        rw [add_cell, Nat.zero_add]
        refine obj_cell HG.out ?_
        simp [Lib.byteCells, hj])
      rw [lowTo_len, size_data] at hconv
      have hall : lowTo s.data.toList s.size = lowL s.data.toList := by rw [← size_data]; exact lowTo_all _
      rw [hall] at hconv
      clear hall
      go_wp2_with fail
      go_ret
      exact ⟨rfl, HB.out⟩
end Go.Proofs.YtiebedcldbmlhaaGreatDoor
