/-
  zzIndexRune and zzContainsRune of a rune that is one byte; analyseConstantPart; the lists of signs of functions 68. Conditions: of a size that addresses allow.
-/
import Derived.Test.YtiebedcldbmlhaaGreatDoorK
import Derived.Test.YtiebedcldbmlhaaGreatDoorN
namespace Go.Proofs.YtiebedcldbmlhaaGreatDoor
open Go.RowKit
set_option linter.unusedVariables false

theorem mem_drop_iff (s : ByteArray) (c : UInt8) (p : Nat) (hp : p < s.size) (hlow : c.toNat < 128) :
    c ∈ s.data.toList.drop p ↔ ((Utf8.decode s p).1 = c.toNat ∨ c ∈ s.data.toList.drop (p + (Utf8.decode s p).2)) := by
  have hcons : ∀ q (hq : q < s.size), s.data.toList.drop q = s[q]'hq :: s.data.toList.drop (q + 1) := by
    intro q hq
    rw [List.drop_eq_getElem_cons (by simpa using hq)]
    rfl
  by_cases ha : (s[p]'hp).toNat < 128
  · rw [decode_ascii s p hp ha, hcons p hp]
    simp only [List.mem_cons]
    have : (s[p]'hp).toNat = c.toNat ↔ c = s[p]'hp := ⟨fun h => (UInt8.toNat_inj.1 h).symm, fun h => by rw [h]⟩
    rw [this]
  · have ha' : 128 ≤ (s[p]'hp).toNat := by omega
    have h1 := (decode_high s p hp ha').1
    have hne : ¬ (Utf8.decode s p).1 = c.toNat := by omega
    have hskip : ∀ n, n ≤ (Utf8.decode s p).2 → (c ∈ s.data.toList.drop p ↔ c ∈ s.data.toList.drop (p + n)) := by
      intro n
      induction n with
      | zero => intro _; rfl
      | succ n ih =>
        intro hn
        rw [ih (by omega)]
        have hlt : p + n < s.size := by have := Utf8_end s p hp; omega
        have hh := Utf8_high s p hp ha' n (by omega)
        rw [hcons (p + n) hlt, List.mem_cons]
        have hx : ¬ c = s[p + n]'hlt := by
          rintro rfl
          rw [show s.get! (p + n) = s[p + n]'hlt from get_at s (p + n) hlt] at hh
          omega
        simp [hx, Nat.add_assoc]
    rw [hskip _ (Nat.le_refl _)]
    simp [hne]

set_option maxHeartbeats 1000000 in
theorem indexRune_any (s : ByteArray) (c : UInt8) (hlow : c.toNat < 128) (w : World) (hs : s.size ≤ 1000000000) :
    Calls Tryz.prog 96 #[.string s, .int .i32 (c.toNat : Int)] w fun e w' => ∃ q : Int, e = .returned (.int .i64 q) ∧ -1 ≤ q ∧ (0 ≤ q ↔ c ∈ s.data.toList) ∧ Below w.heap.size w w' := by
  have b1 : ((c.toNat : Int) != 65533) = true := by rw [bne_iff_ne]; omega
  have b2 : ¬ (c.toNat : Int) < 0 := by omega
  have b3 : ¬ (1114111 : Int) < (c.toNat : Int) := by omega
  have b4 : ¬ (55296 : Int) ≤ (c.toNat : Int) := by omega
  go_enter Tryz.func96, Tryz.ntmps96
  go_wp2
  go_loopw [4] (fun _ wr => ∃ pos : Nat, wr = w.iter s pos ∧ pos ≤ s.size ∧ (c ∈ s.data.toList.drop pos ↔ c ∈ s.data.toList)) (fun _ wr => s.size - wr.iterPos w.heap.size)
  case atStart => exact ⟨0, rfl, by omega, by simp⟩
  case round =>
    obtain ⟨pos, rfl, hps, hc⟩ := hrel
    have HC := Lib.hid hc
    clear hc
    by_cases hp : pos < s.size
    · have hnx : ∀ ty, (Instr.next (.pointer (some ⟨w.heap.size, 0, none⟩)) true ty).run Tryz.prog (w.iter s pos) = _ := fun ty => run_next_any w s pos ty hp
      have hwd := Lib.width_pos s pos
      have hwe := Utf8_end s pos hp
      have HM := Lib.hid (mem_drop_iff s c pos hp hlow)
      by_cases he : (Utf8.decode s pos).1 = c.toNat
      · have hq : (((Utf8.decode s pos).1 : Int) == (c.toNat : Int)) = true := by rw [he]; simp
        have HE := Lib.hid he
        clear he
        go_wp2
        go_ret
        refine ⟨pos, rfl, by omega, ⟨fun _ => HC.out.1 (HM.out.2 (.inl HE.out)), fun _ => by omega⟩, iter_below w s _⟩
      · have hq : (((Utf8.decode s pos).1 : Int) == (c.toNat : Int)) = false := by rw [beq_eq_false_iff_ne]; omega
        have HE := Lib.hid he
        clear he
        go_wp2
        go_roundw
        case rel => exact ⟨pos + (Utf8.decode s pos).2, rfl, by omega, by rw [← HC.out, HM.out]; simp [HE.out]⟩
        case measure =>
          rw [iterPos_of', iterPos_of']
          omega
    · have hnx : ∀ ty, (Instr.next (.pointer (some ⟨w.heap.size, 0, none⟩)) true ty).run Tryz.prog (w.iter s pos) = _ := fun ty => run_next_end w s pos ty hp
      have HN := Lib.hid (show ¬ c ∈ s.data.toList by rw [← HC.out, List.drop_of_length_le (by rw [size_data]; omega)]; simp)
      go_wp2
      go_ret
      exact ⟨-1, rfl, by omega, ⟨fun h => by omega, fun h => absurd h HN.out⟩, iter_below w s pos⟩

theorem containsRune_any (s : ByteArray) (c : UInt8) (hlow : c.toNat < 128) (w : World) (hs : s.size ≤ 1000000000) :
    Calls Tryz.prog 66 #[.string s, .int .i32 (c.toNat : Int)] w fun e w' => e = .returned (.bool (s.data.toList.contains c)) ∧ Below w.heap.size w w' := by
  go_enter Tryz.func66, Tryz.ntmps66
  go_wp2_with fail
  refine (indexRune_any s c hlow w hs).mono ?_
  rintro e w' ⟨q, rfl, hq, hm, hb⟩
  have HM := Lib.hid hm
  clear hm
  by_cases h : 0 ≤ q
  · go_wp2
    go_ret
    exact ⟨ret_bool (by have := HM.out.1 h; simpa using this), hb⟩
  · go_wp2
    go_ret
    exact ⟨ret_bool (by
      have h2 : ¬ c ∈ s.data.toList := fun h' => by have := HM.out.2 h'; omega
      have h3 : ¬ 0 ≤ q := by omega
      simp [h2, h3]), hb⟩

def constSeg (q : Bs) : Seg := { const := unesc q, isParam := false, name := [], cmp := [], partCount := 0, greedy := false, optional := false, last := false, optSlash := false, cons := [], length := (unesc q).length }

theorem seg_new (w : World) (x : Seg) (cv : Value) : SegObj (w.alloc (.cells (segCells x cv).toArray 99)) w.heap.size x cv := by
  show (w.heap.push _)[w.heap.size]? = _
  simp

set_option maxHeartbeats 1000000 in
theorem constPart_any (p : ByteArray) (i : Option Nat) (a : Value) (w : World) (hs : p.size ≤ 1000000000) (hi : ∀ n, i = some n → n ≤ p.size) :
    Calls Tryz.prog 54 #[a, .string p, .int .i64 (oi i)] w fun e w' => ∃ g, e = .returned (.tuple #[.string (bs (constPart p.data.toList i).1), .pointer (some ⟨g, 0, none⟩)]) ∧ w.heap.size ≤ g ∧ SegObj w' g (constPart p.data.toList i).2 (.slice none 0 0) ∧ Below w.heap.size w w' := by
  go_enter Tryz.func54, Tryz.ntmps54
  cases i with
  | none =>
    rw [oi_none]
    go_wp2_with fail
    refine (unesc_any p _ (by omega)).mono ?_
    rintro e w' ⟨rfl, hb⟩
    go_wp2
    go_ret2
    refine ⟨w'.heap.size, ?_, hb.size, seg_new w' (constSeg p.data.toList) (.slice none 0 0), hb.alloc hb.size _⟩
    show Ending.returned (.tuple #[.string p, _]) = Ending.returned (.tuple #[.string (bs p.data.toList), _])
    rw [bs_of]
    rfl
  | some n =>
    have hn := hi n rfl
    rw [oi_some]
    have hbn : ((n : Int) != -1) = true := by simp [bne_iff_ne]
    go_wp2_with fail
    refine (unesc_any _ _ (by simp; omega)).mono ?_
    rintro e w' ⟨rfl, hb⟩
    go_wp2
    go_ret2
    refine ⟨w'.heap.size, ?_, hb.size, seg_new w' (constSeg (p.data.toList.take n)) (.slice none 0 0), hb.alloc hb.size _⟩
    show Ending.returned (.tuple #[.string (p.extract 0 n), _]) = Ending.returned (.tuple #[.string (bs (p.data.toList.take n)), _])
    rw [take_bs]
    rfl
end Go.Proofs.YtiebedcldbmlhaaGreatDoor
