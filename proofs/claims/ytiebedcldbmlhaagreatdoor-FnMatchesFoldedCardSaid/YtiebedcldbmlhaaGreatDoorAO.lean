/-
  The law's own lowering, low, gives what ToLower gives. Conditions: of a size that addresses allow.
-/
import Derived.Test.YtiebedcldbmlhaaGreatDoorAN
import Derived.Lib.ConvBytes
import Derived.Lib.AtoiErrMem
namespace Go.Proofs.YtiebedcldbmlhaaGreatDoor
open Go.RowKit
set_option linter.unusedVariables false

theorem obj_cell_at {w : World} {g i : Nat} {c : Array Value} {t : TypeId} {v : Value} {fr : Nat × Nat} (h : w.heap[g]? = some (.cells c t fr)) (hi : c[i]? = some v) : w.cell? ⟨g, i, none⟩ = some v := by
  simp [World.cell?, h, hi]
theorem obj_free_at {w : World} {g i n : Nat} {c : Array Value} {t : TypeId} (h : w.heap[g]? = some (.cells c t (n, n + 1))) (hi : i < n) : w.frozen? ⟨g, i, none⟩ = false := by
  simp [World.frozen?, h]; omega
theorem lowB_great {c : UInt8} (h1 : 65 ≤ c.toNat) (h2 : c.toNat ≤ 90) : lowB c = c + 32 := by
  unfold lowB
  rw [if_pos]
  exact ⟨by rw [UInt8.le_iff_toNat_le]; exact h1, by rw [UInt8.le_iff_toNat_le]; exact h2⟩
theorem lowB_other {c : UInt8} (h : ¬ (65 ≤ c.toNat ∧ c.toNat ≤ 90)) : lowB c = c := by
  unfold lowB
  rw [if_neg]
  rintro ⟨h1, h2⟩
  rw [UInt8.le_iff_toNat_le] at h1 h2
  exact h ⟨h1, h2⟩
theorem lowTo_same {l : Bs} {k : Nat} (h : k < l.length) (he : lowB l[k] = l[k]) : lowTo l (k + 1) = lowTo l k := by
  rw [← lowTo_set h, he]
  have h1 := lowTo_at h
  rw [List.getElem?_eq_some_iff] at h1
  obtain ⟨h2, h3⟩ := h1
  conv => lhs; rw [← h3]
  exact List.set_getElem_self ..

set_option maxHeartbeats 1000000 in
set_option maxRecDepth 100000 in
theorem low_any (s : ByteArray) (w : World) (hs : s.size ≤ 1000000000) :
    Calls Tryz.prog 31 #[.string s] w fun e w' => e = .returned (.string (bs (lowL s.data.toList))) ∧ Below w.heap.size w w' := by
  have hcv := Lib.run_convert_string_bytes (P := Tryz.prog) w 9 23 5 s (by kernel_rfl : Tryz.prog.underlying 9 = some .string) Tryz.underlying23 (by kernel_rfl)
  have hbw := Lib.bytesWorld_below w 5 s
  have hnew := Lib.bytesWorld_at_new w 5 s
  obtain ⟨R, hR⟩ : ∃ R : List Value, Lib.bytesCells w 5 s = (Lib.byteCells s.data.toList ++ R).toArray := by
    refine ⟨(Array.replicate (grownCap w s.size 0 5 - s.size) (Value.int .u8 0)).toList, ?_⟩
    unfold Lib.bytesCells Lib.byteCells
    apply Array.ext'
    simp
  obtain ⟨n, hn⟩ : ∃ n, n = (Lib.bytesCells w 5 s).size := ⟨_, rfl⟩
  rw [← hn, hR] at hnew
  have hsn : s.size ≤ n := by rw [hn, hR]; simp [Lib.byteCells]
  obtain ⟨cap, hcap⟩ : ∃ cap, cap = grownCap w s.size 0 5 := ⟨_, rfl⟩
  obtain ⟨W, hW⟩ : ∃ W, W = Lib.bytesWorld w 5 s := ⟨_, rfl⟩
  rw [← hcap, ← hW] at hcv
  rw [← hW] at hbw hnew
  have HB0 := Lib.hid hbw
  have HN := Lib.hid hnew
  clear hbw hnew hn hR hcap hW
  go_enter Tryz.func31, Tryz.ntmps31
  go_wp2_with fail
  go_loopw [9] (fun i wr => ∃ k : Nat, k ≤ s.size ∧ i = .int .i64 k ∧ wr.heap[w.heap.size]? = some (.cells (Lib.byteCells (lowTo s.data.toList k) ++ R).toArray 5 (n, n + 1)) ∧ Below w.heap.size w wr) (fun i _ => s.size - (intOf i).toNat)
  case atStart => exact ⟨0, Nat.zero_le _, rfl, by have : lowTo s.data.toList 0 = s.data.toList := by simp [lowTo, lowL]
                                                   rw [this]; exact HN.out, HB0.out⟩
  case round =>
    obtain ⟨k, hk, rfl, hg, hb⟩ := hrel
    have HB := Lib.hid hb
    have HG := Lib.hid hg
    clear hb hg
    by_cases hlt : k < s.size
    · have hkl : k < s.data.toList.length := by rw [size_data]; exact hlt
      have hkl2 : k < (Lib.byteCells (lowTo s.data.toList k)).length := by rw [Lib.byteCells_length, lowTo_len]; exact hkl
      have hc : wr.cell? ⟨w.heap.size, k, none⟩ = some (.int .u8 (s.data.toList[k]'hkl).toNat) := by
        refine obj_cell_at HG.out ?_
        rw [List.getElem?_toArray, List.getElem?_append_left hkl2]
        simp [Lib.byteCells, lowTo_at hkl]
      have hfr := obj_free_at (i := k) HG.out (by omega)
      obtain ⟨c, hcd⟩ : ∃ c, c = s.data.toList[k]'hkl := ⟨_, rfl⟩
      rw [← hcd] at hc
      have HC := Lib.hid hcd
      clear hcd
      have h256 : (c.toNat : Int) < 256 := by have := c.toNat_lt; omega
      by_cases hA : 65 ≤ c.toNat
      · by_cases hZ : c.toNat ≤ 90
        · have d1 : decide ((65 : Int) ≤ (c.toNat : Int)) = true := decide_eq_true (by omega)
          have d2 : decide ((c.toNat : Int) ≤ (90 : Int)) = true := decide_eq_true (by omega)
          have hadd : ((c + 32).toNat : Int) = (c.toNat : Int) + 32 := by
            have h32 : (32 : UInt8).toNat = 32 := rfl
            rw [UInt8.toNat_add, h32, Nat.mod_eq_of_lt (by omega)]; simp
          have HLB := Lib.hid (lowB_great hA hZ)
          go_wp2_with fail
          go_roundw
          case rel =>
            refine ⟨k + 1, by omega, by go_num, ?_, HB.out.setCell (p := ⟨w.heap.size, k, none⟩) (Nat.le_refl _) _⟩
            have h1 := obj_set (i := k) (.int .u8 (c + 32).toNat) HG.out
            rw [List.setIfInBounds_toArray, List.set_append_left _ _ hkl2, byteCells_set, ← HLB.out, HC.out, lowTo_set hkl, ← HC.out, HLB.out, hadd] at h1
            exact h1
          case measure => simp [intOf]; omega
        · have d1 : decide ((65 : Int) ≤ (c.toNat : Int)) = true := decide_eq_true (by omega)
          have d2 : decide ((c.toNat : Int) ≤ (90 : Int)) = false := decide_eq_false (by omega)
          have hns : ¬ ((c.toNat : Int) ≤ 90) := by omega
          have HLB := Lib.hid (lowB_other (c := c) (by omega))
          go_wp2_with fail
          go_roundw
          case rel => exact ⟨k + 1, by omega, by go_num, by rw [lowTo_same hkl (by rw [← HC.out]; exact HLB.out)]; exact HG.out, HB.out⟩
          case measure => simp [intOf]; omega
      · have d1 : decide ((65 : Int) ≤ (c.toNat : Int)) = false := decide_eq_false (by omega)
        have hns : ¬ ((65 : Int) ≤ (c.toNat : Int)) := by omega
        have HLB := Lib.hid (lowB_other (c := c) (by omega))
        go_wp2_with fail
        go_roundw
        case rel => exact ⟨k + 1, by omega, by go_num, by rw [lowTo_same hkl (by rw [← HC.out]; exact HLB.out)]; exact HG.out, HB.out⟩
        case measure => simp [intOf]; omega
    · obtain rfl : k = s.size := by omega
      have hconv := run_convert_bytes_back (P := Tryz.prog) wr 23 9 5 ⟨w.heap.size, 0, none⟩ cap (lowTo s.data.toList s.size) Tryz.underlying23 (by kernel_rfl) (by kernel_rfl) (fun j hj => by
        rw [add_cell, Nat.zero_add]
        refine obj_cell_at HG.out ?_
        rw [List.getElem?_toArray, List.getElem?_append_left (by rw [Lib.byteCells_length]; exact hj)]
        simp [Lib.byteCells, hj])
      rw [lowTo_len, size_data] at hconv
      have hall : lowTo s.data.toList s.size = lowL s.data.toList := by rw [← size_data]; exact lowTo_all _
      rw [hall] at hconv
      clear hall
      go_wp2_with fail
      go_ret
      exact ⟨rfl, HB.out⟩
end Go.Proofs.YtiebedcldbmlhaaGreatDoor
