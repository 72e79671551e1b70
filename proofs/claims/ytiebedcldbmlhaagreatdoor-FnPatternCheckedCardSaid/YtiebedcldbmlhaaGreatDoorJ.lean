/-
  zzWithout and RemoveEscapeChar, of any text. Conditions: of a size that addresses allow.
-/
import Derived.Test.YtiebedcldbmlhaaGreatDoorI
import Derived.Lib.BufferRead
namespace Go.Proofs.YtiebedcldbmlhaaGreatDoor
open Go.RowKit
set_option linter.unusedVariables false

/-- 'string(out)' of a row of bytes of the call's own. -/
theorem conv_own {w : World} {base : Nat} {v : Value} {l : Bs} (h : w.ownsRow base 5 1 v l.length (bvals l)) : (convert 23 9 v).run Tryz.prog w = .ok (.string (bs l)) w := by
  have h5 : Tryz.prog.underlying 5 = some (.int .u8) := by kernel_rfl
  have h9 : Tryz.prog.underlying 9 = some .string := by kernel_rfl
  by_cases hl : 0 < l.length
  · obtain ⟨g, cap, rfl, _, _, hc⟩ := own_some h hl
    refine run_convert_bytes_back w 23 9 5 _ cap l Tryz.underlying23 h5 h9 fun j hj => ?_
    rw [add_cell, Nat.zero_add]
    have := bytes_of hc j hj
    simpa [List.getD, hj] using this
  · have : l = [] := List.length_eq_zero_iff.1 (by omega)
    subst this
    obtain ⟨_, ⟨rfl, _⟩ | ⟨g, cap, cur, rfl, _⟩⟩ := h
    · exact Lib.run_convert_nil_bytes w 23 9 5 0 Tryz.underlying23 h5 h9
    · exact run_convert_bytes_back w 23 9 5 _ cap [] Tryz.underlying23 h5 h9 fun j hj => by simp at hj
theorem take_filter_no (s : ByteArray) (c : UInt8) (k : Nat) (h : k < s.size) (he : s[k]'h = c) : (s.data.toList.take (k + 1)).filter (· != c) = (s.data.toList.take k).filter (· != c) := by
  rw [take_last s k h, List.filter_append]; simp [he]
theorem take_filter_yes (s : ByteArray) (c : UInt8) (k : Nat) (h : k < s.size) (he : s[k]'h ≠ c) : (s.data.toList.take (k + 1)).filter (· != c) = (s.data.toList.take k).filter (· != c) ++ [s[k]'h] := by
  rw [take_last s k h, List.filter_append]; simp [he]
theorem take_filter_le (s : ByteArray) (c : UInt8) (k : Nat) (h : k ≤ s.size) : ((s.data.toList.take k).filter (· != c)).length ≤ k := by
  refine Nat.le_trans (List.length_filter_le _ _) ?_
  simp
  omega

set_option maxHeartbeats 1000000 in
set_option maxRecDepth 100000 in
theorem without_any (s : ByteArray) (c : UInt8) (w : World) (hs : s.size ≤ 140737488351232) :
    Calls Tryz.prog 63 #[.string s, .int .u8 (c.toNat : Int)] w fun e w' => e = .returned (.string (bs (s.data.toList.filter (· != c)))) ∧ Below w.heap.size w w' := by
  obtain ⟨i0, hi, hz0, hz1, hz2⟩ := info_parts info5
  go_enter Tryz.func63, Tryz.ntmps63
  go_wp2
  go_loopw [5, 6] (fun v i wr => ∃ k : Nat, k ≤ s.size ∧ i = .int .i64 k ∧ wr.ownsRow w.heap.size 5 1 v ((s.data.toList.take k).filter (· != c)).length (bvals ((s.data.toList.take k).filter (· != c))) ∧ Below w.heap.size w wr) (fun _ i _ => s.size - (intOf i).toNat)
  case atStart => exact ⟨0, Nat.zero_le _, rfl, World.ownsRow_nil _ _ _ _, Below.refl _ _⟩
  case round =>
    obtain ⟨k, hk, rfl, hown, hb⟩ := hrel
    have HO := Lib.hid hown
    have HB := Lib.hid hb
    clear hown hb
    by_cases hlt : k < s.size
    · by_cases he : s[k]'hlt = c
      · have hq : (((s[k]'hlt).toNat : Int) != (c.toNat : Int)) = false := by rw [bne, u8_beq _ c _ rfl]; simpa using he
        have HE := Lib.hid he
        clear he
        have ht := take_filter_no s c k hlt HE.out
        have HT := Lib.hid ht
        clear ht
        go_wp2
        go_roundw
        case rel => exact ⟨k + 1, by omega, by go_num, by rw [HT.out]; exact HO.out, HB.out⟩
        case measure => simp [intOf]; omega
      · have hq : (((s[k]'hlt).toNat : Int) != (c.toNat : Int)) = true := by rw [bne, u8_beq _ c _ rfl]; simpa using he
        have HE := Lib.hid he
        clear he
        have ht := take_filter_yes s c k hlt HE.out
        have hle := take_filter_le s c k hk
        have HT := Lib.hid ht
        clear ht
        obtain ⟨xs, hxs⟩ : ∃ xs, xs = (s.data.toList.take k).filter (· != c) := ⟨_, rfl⟩
        have HX := Lib.hid hxs
        rw [← hxs] at HO HT hle
        clear hxs
        go_wp2_with (at_builtin; refine wpList_append_own _ rfl (.tmp 18) (.tmp 22) 23 rfl w.heap.size 5 i0 (.int .u8 0) 1 1 Tryz.underlying23 hi hz0 hz1 hz2 rfl (by decide) _ _ _ rfl (HO.out.alloc _) ⟨wr.heap.size, 0, none⟩ 1 1 (bvals [s[k]'hlt]) rfl rfl (fun j u hu => by rw [add_cell, Nat.zero_add, cell_alloc, if_pos rfl]; simpa [objCell, bvals] using hu) (bvals_one _) (by simp [maxLen]; omega) (by omega) (by have := HB.out.size; simp; omega) ?_; intro v' w1 hown' hgrow hnil')
        have hlt' := fun k' h => (HO.out.lt (k := k') h).1
        have hbw := (HB.out.alloc (by have := HB.out.size; omega) (.cells #[.int .u8 (s[k]'hlt).toNat] 5)).grown hgrow (by have := HB.out.size; simp; omega) hlt'
        have hown2 : w1.ownsRow w.heap.size 5 1 v' ((s.data.toList.take (k + 1)).filter (· != c)).length (bvals ((s.data.toList.take (k + 1)).filter (· != c))) := by
          rw [HT.out, bvals_append]; simpa using hown'
        go_roundw
        case rel => exact ⟨k + 1, by omega, by go_num, hown2, hbw⟩
        case measure => simp [intOf]; omega
    · obtain rfl : k = s.size := by omega
      have hconv := conv_own HO.out
      rw [List.take_of_length_le (by rw [size_data]; exact Nat.le_refl _)] at hconv
      go_wp2
      go_ret
      exact ⟨rfl, HB.out⟩

theorem unesc_none (s : Bs) (h : fb s 92 = none) : unesc s = s := by
  unfold unesc
  rw [List.filter_eq_self]
  intro a ha
  have := List.findIdx?_eq_none_iff.1 h a ha
  simp [bne, this]

set_option maxHeartbeats 1000000 in
theorem unesc_any (s : ByteArray) (w : World) (hs : s.size ≤ 140737488351232) :
    Calls Tryz.prog 51 #[.string s] w fun e w' => e = .returned (.string (bs (unesc s.data.toList))) ∧ Below w.heap.size w w' := by
  go_enter Tryz.func51, Tryz.ntmps51
  go_wp2_with fail
  refine (index_any s 92 _).mono ?_
  rintro e w' ⟨rfl, rfl⟩
  cases h : fb s.data.toList 92 with
  | none =>
    rw [oi_none]
    have HN := Lib.hid (unesc_none _ h)
    clear h
    go_wp2
    go_ret
    exact ⟨ret_str (by rw [HN.out, bs_of]), Below.refl _ _⟩
  | some k =>
    rw [oi_some]
    have hbn : ((k : Int) != -1) = true := by simp [bne_iff_ne]
    clear h
    go_wp2_with fail
    refine (without_any s 92 _ hs).mono ?_
    rintro e w' ⟨rfl, hb⟩
    go_wp2
    go_ret
    exact ⟨rfl, hb⟩
end Go.Proofs.YtiebedcldbmlhaaGreatDoor
