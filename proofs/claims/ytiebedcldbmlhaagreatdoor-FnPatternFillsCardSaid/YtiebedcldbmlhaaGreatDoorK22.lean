/-
  Joined: TrimRight, GetTrimmedParam, getParamConstraintType, of any text; zzWithout and RemoveEscapeChar, of any text; A segment in memory; findParamLen and its two helpers, of any text and segment; Segments in a row in memory, and what addParameterMetaInfo does to them; findParamLen, of any text and segment; Plain laws for addParameterMetaInfo: sizes, counts.
  Conditions: each law's own.
-/
import Derived.Test.YtiebedcldbmlhaaGreatDoorK21
import Derived.Lib.BufferRead
import Derived.Deep.DeepCutAuto
import Derived.Deep.CutBlock
namespace Go.Proofs.YtiebedcldbmlhaaGreatDoor
open Go.RowKit
set_option linter.unusedVariables false

theorem trimRight_last (l : Bs) (c : UInt8) : trimRight (l ++ [c]) c = trimRight l c := by
  unfold trimRight
  simp
theorem trimRight_stop (l : Bs) (c d : UInt8) (h : d ≠ c) : trimRight (l ++ [d]) c = l ++ [d] := by
  unfold trimRight
  simp [h]
theorem take_last (s : ByteArray) (k : Nat) (h : k < s.size) : s.data.toList.take (k + 1) = s.data.toList.take k ++ [s[k]'h] := by
  rw [List.take_succ_eq_append_getElem (by simpa using h)]
  rfl

set_option maxHeartbeats 1000000 in
theorem trimRight_any (s : ByteArray) (c : UInt8) (w : World) (hs : s.size ≤ 140737488351232) :
    Calls Tryz.prog 50 #[.string s, .int .u8 (c.toNat : Int)] w fun e w' => e = .returned (.string (bs (trimRight s.data.toList c))) ∧ w = w' := by
  go_enter Tryz.func50, Tryz.ntmps50
  go_wp2
  go_loop [5] (fun p => ∃ k : Nat, p = .int .i64 k ∧ k ≤ s.size ∧ trimRight (s.data.toList.take k) c = trimRight s.data.toList c) (fun p => (intOf p).toNat)
  case atStart => exact ⟨s.size, rfl, by omega, by rw [List.take_of_length_le (by rw [size_data]; exact Nat.le_refl _)]⟩
  case round =>
    obtain ⟨k, rfl, hk, hg⟩ := hrel
    have HG := Lib.hid hg
    clear hg
    by_cases h0 : 0 < k
    · obtain ⟨k, rfl⟩ : ∃ j, k = j + 1 := ⟨k - 1, by omega⟩
      have hi : k < s.size := by omega
      have HT := Lib.hid (take_last s k hi)
      by_cases hb : s[k]'hi = c
      · have hq : (((s[k]'hi).toNat : Int) == (c.toNat : Int)) = true := by rw [u8_beq _ c _ rfl]; simpa using hb
        have HB := Lib.hid hb
        clear hb
        go_wp2
        go_round
        case rel => exact ⟨k, by go_num, by omega, by rw [← HG.out, HT.out, HB.out, trimRight_last]⟩
        case measure => simp [intOf]
      · have hq : (((s[k]'hi).toNat : Int) == (c.toNat : Int)) = false := by rw [u8_beq _ c _ rfl]; simpa using hb
        have HB := Lib.hid hb
        clear hb
        go_wp2
        go_ret
        refine ⟨ret_str ?_, rfl⟩
        rw [bytes_ext, extract_range, bs_data, ← HG.out, HT.out, trimRight_stop _ _ _ HB.out, ← HT.out]
        simp
    · obtain rfl : k = 0 := by omega
      go_wp2
      go_ret
      refine ⟨ret_str ?_, rfl⟩
      rw [bytes_ext, bs_data, ← HG.out]
      rfl

theorem data_cons (s : ByteArray) (h : 0 < s.size) : s.data.toList = s[0]'h :: s.data.toList.drop 1 := by
  have := byte_at s 0 h
  cases hl : s.data.toList with
  | nil => rw [hl] at this; simp at this
  | cons a l => rw [hl] at this; simp at this; simp [this]
theorem data_last (s : ByteArray) (h : s.size - 1 < s.size) : s.data.toList.getLast? = some (s[s.size - 1]'h) := by
  rw [List.getLast?_eq_getElem?, size_data, byte_at s _ h]

theorem trimmed_a (s : ByteArray) (h : 0 < s.size) (h1 : s[0]'h ≠ 58) : trimmed s.data.toList = s.data.toList := by
  rw [data_cons s h]; simp [trimmed, h1]
theorem trimmed_b (s : ByteArray) (h : 0 < s.size) (h1 : s[0]'h = 58) (hl : s.size - 1 < s.size) (h2 : s[s.size - 1]'hl = 63) : trimmed s.data.toList = (s.data.toList.drop 1).dropLast := by
  have e := data_last s hl
  rw [h2] at e
  rw [data_cons s h] at e ⊢
  rw [h1] at e ⊢
  simp only [trimmed, if_true]
  rw [if_pos e]
  simp
theorem trimmed_c (s : ByteArray) (h : 0 < s.size) (h1 : s[0]'h = 58) (hl : s.size - 1 < s.size) (h2 : s[s.size - 1]'hl ≠ 63) : trimmed s.data.toList = s.data.toList.drop 1 := by
  have e := data_last s hl
  rw [data_cons s h] at e ⊢
  rw [h1] at e ⊢
  simp only [trimmed, if_true]
  rw [if_neg (by rw [e]; simpa using h2)]
  simp

set_option maxHeartbeats 1000000 in
theorem trimmed_any (s : ByteArray) (w : World) (hs : s.size ≤ 140737488351232) :
    Calls Tryz.prog 74 #[.string s] w fun e w' => e = .returned (.string (bs (trimmed s.data.toList))) ∧ w = w' := by
  go_enter Tryz.func74, Tryz.ntmps74
  by_cases h0 : s.size = 0
  · go_wp2
    go_ret
    refine ⟨ret_str ?_, rfl⟩
    have : s.data.toList = [] := List.length_eq_zero_iff.1 (by rw [size_data]; exact h0)
    rw [bytes_ext, bs_data, this]
    rfl
  · have hi : 0 < s.size := by omega
    have hj : s.size - 1 < s.size := by omega
    by_cases h1 : s[0]'hi = 58
    · have q1 : (((s[0]'hi).toNat : Int) != 58) = false := by rw [bne, u8_beq _ 58 58 rfl]; simpa using h1
      by_cases h2 : s[s.size - 1]'hj = 63
      · have q2 : (((s[s.size - 1]'hj).toNat : Int) == 63) = true := by rw [u8_beq _ 63 63 rfl]; simpa using h2
        have h3 : 2 ≤ s.size := by
          rcases Nat.lt_or_ge 1 s.size with h | h
          · exact h
          · have e1 : s.size - 1 = 0 := by omega
            simp only [e1] at h2
            rw [h1] at h2
            simp at h2
        have HT := Lib.hid (trimmed_b s hi h1 hj h2)
        clear h1 h2
        go_wp2
        go_ret
        refine ⟨ret_str ?_, rfl⟩
        rw [bytes_ext, extract_range, bs_data, HT.out, List.dropLast_eq_take]
        simp
      · have q2 : (((s[s.size - 1]'hj).toNat : Int) == 63) = false := by rw [u8_beq _ 63 63 rfl]; simpa using h2
        have HT := Lib.hid (trimmed_c s hi h1 hj h2)
        clear h1 h2
        go_wp2
        go_ret
        refine ⟨ret_str ?_, rfl⟩
        rw [bytes_ext, extract_from, bs_data, HT.out]
    · have q1 : (((s[0]'hi).toNat : Int) != 58) = true := by rw [bne, u8_beq _ 58 58 rfl]; simpa using h1
      have HT := Lib.hid (trimmed_a s hi h1)
      clear h1
      go_wp2
      go_ret
      refine ⟨ret_str ?_, rfl⟩
      rw [bytes_ext, bs_data, HT.out]

theorem ctype_eq (s : Bs) : ctype s =
    if s = [105, 110, 116] then 2
    else if s = [98, 111, 111, 108] then 3
    else if s = [102, 108, 111, 97, 116] then 4
    else if s = [97, 108, 112, 104, 97] then 5
    else if s = [103, 117, 105, 100] then 7
    else if s = [109, 105, 110, 76, 101, 110] ∨ s = [109, 105, 110, 108, 101, 110] then 8
    else if s = [109, 97, 120, 76, 101, 110] ∨ s = [109, 97, 120, 108, 101, 110] then 9
    else if s = [108, 101, 110] then 10
    else if s = [98, 101, 116, 119, 101, 101, 110, 76, 101, 110] ∨ s = [98, 101, 116, 119, 101, 101, 110, 108, 101, 110] then 11
    else if s = [109, 105, 110] then 12
    else if s = [109, 97, 120] then 13
    else if s = [114, 97, 110, 103, 101] then 14
    else if s = [100, 97, 116, 101, 116, 105, 109, 101] then 6
    else if s = [114, 101, 103, 101, 120] then 15
    else 1 := by
  rfl

set_option maxHeartbeats 4000000 in
theorem ctype_any (s : ByteArray) (w : World) :
    Calls Tryz.prog 79 #[.string s] w fun e w' => e = .returned (.int .i16 (ctype s.data.toList)) ∧ w = w' := by
  go_enter Tryz.func79, Tryz.ntmps79
  go_wp2
  all_goals go_ret
  all_goals refine ⟨?_, rfl⟩
  all_goals refine ret_int ?_
  all_goals rw [ctype_eq s.data.toList]
  all_goals simp_all [Lib.toList_data]
end Go.Proofs.YtiebedcldbmlhaaGreatDoor
namespace Go.Proofs.YtiebedcldbmlhaaGreatDoor
open Go.RowKit
set_option linter.unusedVariables false

/-- 'string(out)' of a row of bytes of the call's own. -/
theorem conv_own {w : World} {base : Nat} {v : Value} {l : Bs} (h : w.ownsRow base 5 1 v l.length (bvals l)) : (convert 23 9 v).run Tryz.prog w = .ok (.string (bs l)) w := by
  have h5 : Tryz.prog.underlying 5 = some (.int .u8) := by kernel_rfl
  have h9 : Tryz.prog.underlying 9 = some .string := by kernel_rfl
  by_cases hl : 0 < l.length
  · obtain ⟨g, cap, rfl, _, _, hc⟩ := own_some h hl
    refine run_convert_bytes_back w 23 9 5 _ cap l Tryz.underlying23 h5 h9 fun j hj => ?_
    rw [add_cell, Nat.zero_add]
    have := bytes_of hc j hj
    simpa [List.getD, hj] using this
  · have : l = [] := List.length_eq_zero_iff.1 (by omega)
    subst this
    obtain ⟨_, ⟨rfl, _⟩ | ⟨g, cap, cur, rfl, _⟩⟩ := h
    · exact Lib.run_convert_nil_bytes w 23 9 5 0 Tryz.underlying23 h5 h9
    · exact run_convert_bytes_back w 23 9 5 _ cap [] Tryz.underlying23 h5 h9 fun j hj => by simp at hj
theorem take_filter_no (s : ByteArray) (c : UInt8) (k : Nat) (h : k < s.size) (he : s[k]'h = c) : (s.data.toList.take (k + 1)).filter (· != c) = (s.data.toList.take k).filter (· != c) := by
  rw [take_last s k h, List.filter_append]; simp [he]
theorem take_filter_yes (s : ByteArray) (c : UInt8) (k : Nat) (h : k < s.size) (he : s[k]'h ≠ c) : (s.data.toList.take (k + 1)).filter (· != c) = (s.data.toList.take k).filter (· != c) ++ [s[k]'h] := by
  rw [take_last s k h, List.filter_append]; simp [he]
theorem take_filter_le (s : ByteArray) (c : UInt8) (k : Nat) (h : k ≤ s.size) : ((s.data.toList.take k).filter (· != c)).length ≤ k := by
  refine Nat.le_trans (List.length_filter_le _ _) ?_
  simp
  omega

set_option maxHeartbeats 1000000 in
set_option maxRecDepth 100000 in
theorem without_any (s : ByteArray) (c : UInt8) (w : World) (hs : s.size ≤ 140737488351232) :
    Calls Tryz.prog 63 #[.string s, .int .u8 (c.toNat : Int)] w fun e w' => e = .returned (.string (bs (s.data.toList.filter (· != c)))) ∧ Below w.heap.size w w' := by
  obtain ⟨i0, hi, hz0, hz1, hz2⟩ := info_parts info5
  go_enter Tryz.func63, Tryz.ntmps63
  go_wp2
  go_loopw [5, 6] (fun v i wr => ∃ k : Nat, k ≤ s.size ∧ i = .int .i64 k ∧ wr.ownsRow w.heap.size 5 1 v ((s.data.toList.take k).filter (· != c)).length (bvals ((s.data.toList.take k).filter (· != c))) ∧ Below w.heap.size w wr) (fun _ i _ => s.size - (intOf i).toNat)
  case atStart => exact ⟨0, Nat.zero_le _, rfl, World.ownsRow_nil _ _ _ _, Below.refl _ _⟩
  case round =>
    obtain ⟨k, hk, rfl, hown, hb⟩ := hrel
    have HO := Lib.hid hown
    have HB := Lib.hid hb
    clear hown hb
    by_cases hlt : k < s.size
    · by_cases he : s[k]'hlt = c
      · have hq : (((s[k]'hlt).toNat : Int) != (c.toNat : Int)) = false := by rw [bne, u8_beq _ c _ rfl]; simpa using he
        have HE := Lib.hid he
        clear he
        have ht := take_filter_no s c k hlt HE.out
        have HT := Lib.hid ht
        clear ht
        go_wp2
        go_roundw
        case rel => exact ⟨k + 1, by omega, by go_num, by rw [HT.out]; exact HO.out, HB.out⟩
        case measure => simp [intOf]; omega
      · have hq : (((s[k]'hlt).toNat : Int) != (c.toNat : Int)) = true := by rw [bne, u8_beq _ c _ rfl]; simpa using he
        have HE := Lib.hid he
        clear he
        have ht := take_filter_yes s c k hlt HE.out
        have hle := take_filter_le s c k hk
        have HT := Lib.hid ht
        clear ht
        obtain ⟨xs, hxs⟩ : ∃ xs, xs = (s.data.toList.take k).filter (· != c) := ⟨_, rfl⟩
        have HX := Lib.hid hxs
        rw [← hxs] at HO HT hle
        clear hxs
        go_wp2_with (at_builtin; refine wpList_append_own _ rfl (.tmp 18) (.tmp 22) 23 rfl w.heap.size 5 i0 (.int .u8 0) 1 1 Tryz.underlying23 hi hz0 hz1 hz2 rfl (by decide) _ _ _ rfl (HO.out.alloc _) ⟨wr.heap.size, 0, none⟩ 1 1 (bvals [s[k]'hlt]) rfl rfl (fun j u hu => by rw [add_cell, Nat.zero_add, cell_alloc, if_pos rfl]; simpa [objCell, bvals] using hu) (bvals_one _) (by simp [maxLen]; omega) (by omega) (by have := HB.out.size; simp; omega) ?_; intro v' w1 hown' hgrow hnil')
        have hlt' := fun k' h => (HO.out.lt (k := k') h).1
        have hbw := (HB.out.alloc (by have := HB.out.size; omega) (.cells #[.int .u8 (s[k]'hlt).toNat] 5)).grown hgrow (by have := HB.out.size; simp; omega) hlt'
        have hown2 : w1.ownsRow w.heap.size 5 1 v' ((s.data.toList.take (k + 1)).filter (· != c)).length (bvals ((s.data.toList.take (k + 1)).filter (· != c))) := by
          rw [HT.out, bvals_append]; simpa using hown'
        go_roundw
        case rel => exact ⟨k + 1, by omega, by go_num, hown2, hbw⟩
        case measure => simp [intOf]; omega
    · obtain rfl : k = s.size := by omega
      have hconv := conv_own HO.out
      rw [List.take_of_length_le (by rw [size_data]; exact Nat.le_refl _)] at hconv
      go_wp2
      go_ret
      exact ⟨rfl, HB.out⟩

theorem unesc_none (s : Bs) (h : fb s 92 = none) : unesc s = s := by
  unfold unesc
  rw [List.filter_eq_self]
  intro a ha
  have := List.findIdx?_eq_none_iff.1 h a ha
  simp [bne, this]

set_option maxHeartbeats 1000000 in
theorem unesc_any (s : ByteArray) (w : World) (hs : s.size ≤ 140737488351232) :
    Calls Tryz.prog 51 #[.string s] w fun e w' => e = .returned (.string (bs (unesc s.data.toList))) ∧ Below w.heap.size w w' := by
  go_enter Tryz.func51, Tryz.ntmps51
  go_wp2_with fail
  refine (index_any s 92 _).mono ?_
  rintro e w' ⟨rfl, rfl⟩
  cases h : fb s.data.toList 92 with
  | none =>
    rw [oi_none]
    have HN := Lib.hid (unesc_none _ h)
    clear h
    go_wp2
    go_ret
    exact ⟨ret_str (by rw [HN.out, bs_of]), Below.refl _ _⟩
  | some k =>
    rw [oi_some]
    have hbn : ((k : Int) != -1) = true := by simp [bne_iff_ne]
    clear h
    go_wp2_with fail
    refine (without_any s 92 _ hs).mono ?_
    rintro e w' ⟨rfl, hb⟩
    go_wp2
    go_ret
    exact ⟨rfl, hb⟩
end Go.Proofs.YtiebedcldbmlhaaGreatDoor
namespace Go.Proofs.YtiebedcldbmlhaaGreatDoor
open Go.RowKit
set_option linter.unusedVariables false

def segCells (x : Seg) (cv : Value) : List Value :=
  [.string (bs x.const), .bool x.isParam, .string (bs x.name), .string (bs x.cmp), .int .i64 x.partCount, .bool x.greedy, .bool x.optional, .bool x.last, .bool x.optSlash, cv, .int .i64 x.length]
/-- The block of a segment. -/
def SegObj (w : World) (g : Nat) (x : Seg) (cv : Value) : Prop := w.heap[g]? = some (.cells (segCells x cv).toArray 99 (0, 0))
theorem SegObj.cell {w : World} {g : Nat} {x : Seg} {cv : Value} (h : SegObj w g x cv) (i : Nat) (v : Value) (hv : (segCells x cv)[i]? = some v) : w.cell? ⟨g, i, none⟩ = some v := by
  have h' : w.heap[g]? = some (.cells (segCells x cv).toArray 99 (0, 0)) := h
  simp only [World.cell?, h']
  simpa using hv
theorem SegObj.frozen {w : World} {g : Nat} {x : Seg} {cv : Value} (h : SegObj w g x cv) (i : Nat) : w.frozen? ⟨g, i, none⟩ = false := by
  have h' : w.heap[g]? = some (.cells (segCells x cv).toArray 99 (0, 0)) := h
  simp [World.frozen?, h']
theorem SegObj.lt {w : World} {g : Nat} {x : Seg} {cv : Value} (h : SegObj w g x cv) : g < w.heap.size := (Array.getElem?_eq_some_iff.1 h).1
theorem SegObj.below {w w' : World} {g : Nat} {x : Seg} {cv : Value} (h : SegObj w g x cv) {B : Nat} (hb : Below B w w') (hg : g < B) : SegObj w' g x cv := (hb.block g hg).trans h

theorem pl_last {s : Bs} {x : Seg} (h1 : x.last = true) (h2 : x.greedy = true) : paramLen s x = s.length := by unfold paramLen; simp [h1, h2]
theorem pl_last_none {s : Bs} {x : Seg} (h1 : x.last = true) (h2 : x.greedy = false) (h : fb s 47 = none) : paramLen s x = s.length := by unfold paramLen; simp [h1, h2, h]
theorem pl_last_some {s : Bs} {x : Seg} {k : Nat} (h1 : x.last = true) (h2 : x.greedy = false) (h : fb s 47 = some k) : paramLen s x = k := by unfold paramLen; simp [h1, h2, h]

set_option maxHeartbeats 1000000 in
theorem lastSeg_any (s : ByteArray) (g : Nat) (x : Seg) (cv : Value) (w : World) (hs : s.size ≤ 140737488351232) (h : SegObj w g x cv) (hl : x.last = true) :
    Calls Tryz.prog 83 #[.string s, .pointer (some ⟨g, 0, none⟩)] w fun e w' => e = .returned (.int .i64 (paramLen s.data.toList x)) ∧ w = w' := by
  have c5 := h.cell 5 _ rfl
  go_enter Tryz.func83, Tryz.ntmps83
  cases hg : x.greedy with
  | true =>
    rw [hg] at c5
    have HP := Lib.hid (pl_last (s := s.data.toList) hl hg)
    clear hg
    go_wp2
    go_ret
    exact ⟨ret_int (by rw [HP.out, size_data]), rfl⟩
  | false =>
    rw [hg] at c5
    have HG := Lib.hid hg
    clear hg
    go_wp2_with fail
    refine (index_any s 47 _).mono ?_
    rintro e w' ⟨rfl, rfl⟩
    cases hf : fb s.data.toList 47 with
    | none =>
      rw [oi_none]
      have HP := Lib.hid (pl_last_none hl HG.out hf)
      clear hf
      go_wp2
      go_ret
      exact ⟨ret_int (by rw [HP.out, size_data]), rfl⟩
    | some k =>
      rw [oi_some]
      have HP := Lib.hid (pl_last_some hl HG.out hf)
      have hbn : ((k : Int) != -1) = true := by simp [bne_iff_ne]
      clear hf
      go_wp2
      go_ret
      exact ⟨ret_int (by rw [HP.out]), rfl⟩

theorem greedyGo_stop {sub s : Bs} {p c : Nat} (h : p = 0 ∨ c = 0) : greedyGo sub p c s = s := by
  cases p with
  | zero => rfl
  | succ p => cases c with
    | zero => rfl
    | succ c => omega
theorem greedyGo_none {sub s : Bs} {p c : Nat} (h : lastIdx s sub = none) : greedyGo sub (p + 1) (c + 1) s = s := by unfold greedyGo; rw [h]
theorem greedyGo_some {sub s : Bs} {p c k : Nat} (h : lastIdx s sub = some k) : greedyGo sub (p + 1) (c + 1) s = greedyGo sub p c (s.take k) := by
  conv => lhs; unfold greedyGo
  rw [h]

theorem lastGo_lt {s sub : Bs} : ∀ {n k : Nat}, lastGo s sub n = some k → k < n
  | 0, k, h => by cases h
  | n + 1, k, h => by
    unfold lastGo at h
    split at h
    · cases h; omega
    · have := lastGo_lt h; omega
theorem lastIdx_le {s sub : Bs} {k : Nat} (h : lastIdx s sub = some k) : k ≤ s.length := by
  unfold lastIdx at h
  split at h
  · cases h
  · have := lastGo_lt h; omega

set_option maxHeartbeats 1000000 in
theorem greedyLen_any (s : ByteArray) (n : Nat) (g : Nat) (x : Seg) (cv : Value) (w : World) (hs : s.size ≤ 140737488351232) (hn : n ≤ 140737488351232) (h : SegObj w g x cv) (hp0 : 0 ≤ x.partCount) (hp : x.partCount ≤ 140737488351232) (hc : x.cmp.length ≤ 140737488351232) :
    Calls Tryz.prog 84 #[.string s, .int .i64 n, .pointer (some ⟨g, 0, none⟩)] w fun e w' => e = .returned (.int .i64 (greedyGo x.cmp x.partCount.toNat n s.data.toList).length) ∧ w = w' := by
  have c4 := h.cell 4 _ rfl
  have c3 := h.cell 3 _ rfl
  obtain ⟨p, hpp⟩ : ∃ p : Nat, x.partCount = p := ⟨x.partCount.toNat, by omega⟩
  rw [hpp] at c4 hp
  have e1 : x.partCount.toNat = p := by omega
  rw [e1]
  clear hpp e1 hp0
  obtain ⟨t, ht⟩ : ∃ t, t = bs x.cmp := ⟨_, rfl⟩
  have htd : x.cmp = t.data.toList := by rw [ht, bs_data]
  have hts : t.size ≤ 140737488351232 := by rw [ht]; exact hc
  rw [← ht] at c3
  rw [htd]
  clear ht htd hc
  have HH := Lib.hid h
  clear h
  go_enter Tryz.func84, Tryz.ntmps84
  go_wp2
  go_loop [0, 1, 7] (fun a b c => ∃ (r : ByteArray) (m q : Nat), a = .string r ∧ b = .int .i64 m ∧ c = .int .i64 q ∧ r.size ≤ s.size ∧ m ≤ n ∧ q ≤ p ∧ greedyGo t.data.toList q m r.data.toList = greedyGo t.data.toList p n s.data.toList) (fun _ _ c => (intOf c).toNat)
  case atStart => exact ⟨s, n, p, rfl, rfl, rfl, Nat.le_refl _, Nat.le_refl _, Nat.le_refl _, rfl⟩
  case round =>
    obtain ⟨r, m, q, rfl, rfl, rfl, hr, hm, hq, hg⟩ := hrel
    have HG := Lib.hid hg
    clear hg
    by_cases h0 : q = 0 ∨ m = 0
    · have HS := Lib.hid (greedyGo_stop (sub := t.data.toList) (s := r.data.toList) h0)
      by_cases hq0 : q = 0
      · subst hq0
        go_wp2
        go_ret
        exact ⟨ret_int (by rw [← HG.out, HS.out, size_data]), rfl⟩
      · obtain rfl : m = 0 := by omega
        clear h0
        have hq1 : 0 < q := by omega
        go_wp2
        go_ret
        exact ⟨ret_int (by rw [← HG.out, HS.out, size_data]), rfl⟩
    · obtain ⟨q, rfl⟩ : ∃ j, q = j + 1 := ⟨q - 1, by omega⟩
      obtain ⟨m, rfl⟩ : ∃ j, m = j + 1 := ⟨m - 1, by omega⟩
      clear h0
      go_wp2_with fail
      refine (lastIdx_any r t _ (by omega) hts).mono ?_
      rintro e w' ⟨rfl, rfl⟩
      cases hN : lastIdx r.data.toList t.data.toList with
      | none =>
        rw [oi_none]
        have HS := Lib.hid (greedyGo_none (p := q) (c := m) hN)
        clear hN
        go_wp2
        go_ret
        exact ⟨ret_int (by rw [← HG.out, HS.out, size_data]), rfl⟩
      | some k =>
        rw [oi_some]
        have hk := lastIdx_le hN
        rw [size_data] at hk
        have HS := Lib.hid (greedyGo_some (p := q) (c := m) hN)
        have hbn : ((k : Int) != -1) = true := by simp [bne_iff_ne]
        clear hN
        go_wp2
        go_round
        case rel => exact ⟨r.extract 0 k, m, q, rfl, by go_num, by go_num, by simp; omega, by omega, by omega, by rw [← HG.out, HS.out, extract_range]; simp⟩
        case measure => simp [intOf]
end Go.Proofs.YtiebedcldbmlhaaGreatDoor
namespace Go.Proofs.YtiebedcldbmlhaaGreatDoor
open Go.RowKit
set_option linter.unusedVariables false

/-- Segments, each in its block. -/
def SegsIn (w : World) (gs : List Nat) (L : List Seg) (cvs : List Value) : Prop :=
  gs.length = L.length ∧ cvs.length = L.length ∧ ∀ (i : Nat) (x : Seg), L[i]? = some x → ∃ (g : Nat) (cv : Value), gs[i]? = some g ∧ cvs[i]? = some cv ∧ SegObj w g x cv

/-- Of what was there only these blocks have changed. -/
structure Touch (gs : List Nat) (w w' : World) : Prop where
  os : w'.os = w.os
  tape : w'.tape = w.tape
  output : w'.output = w.output
  size : w.heap.size ≤ w'.heap.size
  block : ∀ k, k < w.heap.size → k ∉ gs → w'.heap[k]? = w.heap[k]?

theorem Touch.refl (gs : List Nat) (w : World) : Touch gs w w := ⟨rfl, rfl, rfl, Nat.le_refl _, fun _ _ _ => rfl⟩
theorem Touch.trans {gs : List Nat} {a b c : World} (h : Touch gs a b) (k : Touch gs b c) : Touch gs a c :=
  ⟨k.os.trans h.os, k.tape.trans h.tape, k.output.trans h.output, Nat.le_trans h.size k.size, fun j hj hn => (k.block j (Nat.lt_of_lt_of_le hj h.size) hn).trans (h.block j hj hn)⟩
theorem touch_below {gs : List Nat} {w w' : World} (h : Below w.heap.size w w') : Touch gs w w' := ⟨h.os, h.tape, h.output, h.size, fun k hk _ => h.block k hk⟩
theorem touch_set {gs : List Nat} {w : World} {g i : Nat} (v : Value) (h : g ∈ gs) : Touch gs w (w.setCell ⟨g, i, none⟩ v) :=
  ⟨rfl, rfl, rfl, by simp, fun k hk hn => Below.heap_setCell w ⟨g, i, none⟩ v k (fun e => hn (by rw [e]; exact h))⟩
theorem touch_cell {gs : List Nat} {w w' : World} (h : Touch gs w w') {r i : Nat} {v : Value} (hr : r ∉ gs) (hc : w.cell? ⟨r, i, none⟩ = some v) : w'.cell? ⟨r, i, none⟩ = some v :=
  (World.cell?_of_block (a := ⟨r, i, none⟩) (h.block r (cell_lt hc) hr)).trans hc

theorem segobj_set {w : World} {g i : Nat} {x x' : Seg} {cv : Value} (v : Value) (h : SegObj w g x cv) (hx : (segCells x cv).set i v = segCells x' cv) : SegObj (w.setCell ⟨g, i, none⟩ v) g x' cv := by
  have h' : w.heap[g]? = some (.cells (segCells x cv).toArray 99 (0, 0)) := h
  show (w.setCell ⟨g, i, none⟩ v).heap[g]? = some (.cells (segCells x' cv).toArray 99 (0, 0))
  rw [← hx]
  simp [World.setCell, Array.getElem?_modify, h']
theorem segobj_other {w : World} {g k i : Nat} {x : Seg} {cv : Value} (v : Value) (h : SegObj w g x cv) (hk : g ≠ k) : SegObj (w.setCell ⟨k, i, none⟩ v) g x cv :=
  (Below.heap_setCell w ⟨k, i, none⟩ v g hk).trans h

theorem SegsIn.below {w w' : World} {gs : List Nat} {L : List Seg} {cvs : List Value} (h : SegsIn w gs L cvs) (hb : Below w.heap.size w w') : SegsIn w' gs L cvs :=
  ⟨h.1, h.2.1, fun i x hx => by obtain ⟨g, cv, h1, h2, h3⟩ := h.2.2 i x hx; exact ⟨g, cv, h1, h2, h3.below hb h3.lt⟩⟩
theorem SegsIn.set {w : World} {gs : List Nat} {L : List Seg} {cvs : List Value} (h : SegsIn w gs L cvs) (hn : gs.Nodup) {i f g : Nat} {x x' : Seg} {cv : Value} (v : Value)
    (hx : L[i]? = some x) (hg : gs[i]? = some g) (hcv : cvs[i]? = some cv) (hs : (segCells x cv).set f v = segCells x' cv) : SegsIn (w.setCell ⟨g, f, none⟩ v) gs (L.set i x') cvs := by
  refine ⟨by rw [List.length_set]; exact h.1, by rw [List.length_set]; exact h.2.1, fun j y hy => ?_⟩
  by_cases hj : j = i
  · subst hj
    have hlt := (List.getElem?_eq_some_iff.1 hx).1
    rw [List.getElem?_set_self hlt] at hy
    cases hy
    obtain ⟨g', cv', h1, h2, h3⟩ := h.2.2 j x hx
    rw [hg] at h1; rw [hcv] at h2
    cases h1; cases h2
    exact ⟨g, cv, hg, hcv, segobj_set v h3 hs⟩
  · rw [List.getElem?_set_ne (fun e => hj e.symm)] at hy
    obtain ⟨g', cv', h1, h2, h3⟩ := h.2.2 j y hy
    refine ⟨g', cv', h1, h2, segobj_other v h3 ?_⟩
    rintro rfl
    obtain ⟨a1, b1⟩ := List.getElem?_eq_some_iff.1 h1
    obtain ⟨a2, b2⟩ := List.getElem?_eq_some_iff.1 hg
    exact hj ((List.getElem_inj hn).1 (b1.trans b2.symm))

theorem cmpBack_param {x : Seg} {r : List Seg} (h : x.isParam = true) : cmpBack (x :: r) = ({ x with cmp := unesc (cmpBack r).2 } :: (cmpBack r).1, (cmpBack r).2) := by
  simp [cmpBack, h]
theorem cmpBack_const {x : Seg} {r : List Seg} (h : x.isParam = false) : cmpBack (x :: r) = (x :: (cmpBack r).1, if 1 < x.const.length then trimRight x.const 47 else x.const) := by
  simp [cmpBack, h]
/-- The segments behind so many rounds. -/
def backAt (L : List Seg) (k : Nat) : List Seg := L.take k ++ (cmpBack (L.drop k)).1
theorem cmpBack_length : ∀ L : List Seg, (cmpBack L).1.length = L.length
  | [] => rfl
  | x :: r => by
    cases h : x.isParam with
    | true => rw [cmpBack_param h]; simp [cmpBack_length r]
    | false => rw [cmpBack_const h]; simp [cmpBack_length r]
theorem backAt_get {L : List Seg} {k : Nat} {x : Seg} (h : L[k]? = some x) : (backAt L (k + 1))[k]? = some x := by
  have hk := (List.getElem?_eq_some_iff.1 h).1
  unfold backAt
  rw [List.getElem?_append_left (by rw [List.length_take]; omega), List.getElem?_take_of_lt (by omega)]
  exact h
theorem drop_step {L : List Seg} {k : Nat} {x : Seg} (h : L[k]? = some x) : L.drop k = x :: L.drop (k + 1) := by
  obtain ⟨hk, he⟩ := List.getElem?_eq_some_iff.1 h
  rw [List.drop_eq_getElem_cons hk, he]
theorem take_step {L : List Seg} {k : Nat} {x : Seg} (h : L[k]? = some x) : L.take (k + 1) = L.take k ++ [x] := by
  obtain ⟨hk, he⟩ := List.getElem?_eq_some_iff.1 h
  rw [List.take_succ_eq_append_getElem hk, he]
theorem backAt_param {L : List Seg} {k : Nat} {x : Seg} (h : L[k]? = some x) (hp : x.isParam = true) : backAt L k = (backAt L (k + 1)).set k { x with cmp := unesc (cmpBack (L.drop (k + 1))).2 } := by
  have hk := (List.getElem?_eq_some_iff.1 h).1
  unfold backAt
  rw [drop_step h, cmpBack_param hp, take_step h, List.append_assoc, List.set_append_right _ _ (by rw [List.length_take]; omega)]
  have : k - (L.take k).length = 0 := by rw [List.length_take]; omega
  rw [this]
  rfl
theorem backAt_const {L : List Seg} {k : Nat} {x : Seg} (h : L[k]? = some x) (hp : x.isParam = false) : backAt L k = backAt L (k + 1) := by
  unfold backAt
  rw [drop_step h, cmpBack_const hp, take_step h, List.append_assoc]
  rfl
end Go.Proofs.YtiebedcldbmlhaaGreatDoor
namespace Go.Proofs.YtiebedcldbmlhaaGreatDoor
open Go.RowKit
set_option linter.unusedVariables false

/-- findParamLen behind its first two tests. -/
def plTail (s cmp : Bs) (greedy : Bool) : Nat :=
  match cmp with
  | [c] => (fb s c).getD s.length
  | _ => match idx s cmp with
    | none => s.length
    | some p => if !greedy ∧ (s.take p).contains 47 then 0 else p
theorem pl_fixed {s : Bs} {x : Seg} (h1 : x.last = false) (h2 : x.length ≠ 0) (h3 : x.length ≤ s.length) : paramLen s x = x.length.toNat := by unfold paramLen; simp [h1, h2, h3]
theorem pl_greedy {s : Bs} {x : Seg} (h1 : x.last = false) (h2 : x.length = 0 ∨ (s.length : Int) < x.length) (h3 : x.greedy = true) (h4 : 1 < countS s x.cmp) : paramLen s x = (greedyGo x.cmp x.partCount.toNat (countS s x.cmp) s).length := by
  unfold paramLen
  rw [if_neg (by simp [h1]), if_neg (by omega), if_pos h2, if_pos ⟨h3, h4⟩]
theorem pl_tail {s : Bs} {x : Seg} (h1 : x.last = false) (h2 : x.length = 0 ∨ (s.length : Int) < x.length) (h3 : ¬ (x.greedy = true ∧ 1 < countS s x.cmp)) : paramLen s x = plTail s x.cmp x.greedy := by
  unfold paramLen
  rw [if_neg (by simp [h1]), if_neg (by omega), if_pos h2, if_neg h3]
  rfl
theorem cmp_one (t : ByteArray) (h : t.size = 1) (hi : 0 < t.size) : t.data.toList = [t[0]'hi] := by
  rw [data_cons t hi, List.drop_of_length_le (by rw [size_data]; omega)]
theorem cmp_not (t : ByteArray) (h : ¬ t.size = 1) : ∀ c, t.data.toList ≠ [c] := by
  intro c hc
  apply h
  rw [← size_data, hc]; rfl
theorem tail_one_none {s cmp : Bs} {c : UInt8} {gr : Bool} (h : cmp = [c]) (hf : fb s c = none) : plTail s cmp gr = s.length := by subst h; simp [plTail, hf]
theorem tail_one_some {s cmp : Bs} {c : UInt8} {gr : Bool} {k : Nat} (h : cmp = [c]) (hf : fb s c = some k) : plTail s cmp gr = k := by subst h; simp [plTail, hf]
theorem plTail_not {s cmp : Bs} {gr : Bool} (h : ∀ c, cmp ≠ [c]) : plTail s cmp gr = (match idx s cmp with
    | none => s.length
    | some p => if !gr ∧ (s.take p).contains 47 then 0 else p) := by
  unfold plTail
  split
  · exact absurd rfl (h _)
  · rfl
theorem tail_none {s cmp : Bs} {gr : Bool} (h : ∀ c, cmp ≠ [c]) (hf : idx s cmp = none) : plTail s cmp gr = s.length := by rw [plTail_not h, hf]
theorem fb_none_iff {s : Bs} {c : UInt8} : fb s c = none ↔ s.contains c = false := by
  unfold fb
  rw [List.findIdx?_eq_none_iff, Bool.eq_false_iff]
  simp only [ne_eq, List.contains_iff_mem, beq_eq_false_iff_ne]
  exact ⟨fun h hc => h c hc rfl, fun h x hx he => h (he ▸ hx)⟩
theorem fb_some_has {s : Bs} {c : UInt8} {k : Nat} (h : fb s c = some k) : s.contains c = true := by
  cases hc : s.contains c with
  | true => rfl
  | false => rw [fb_none_iff.2 hc] at h; cases h
theorem tail_free {s cmp : Bs} {gr : Bool} {k : Nat} (h : ∀ c, cmp ≠ [c]) (hf : idx s cmp = some k) (hg : gr = false) (hz : fb (s.take k) 47 = none) : plTail s cmp gr = k := by
  rw [plTail_not h, hf]; simp [hg]
  intro hm
  have := fb_none_iff.1 hz
  simp_all
theorem tail_held {s cmp : Bs} {gr : Bool} {k j : Nat} (h : ∀ c, cmp ≠ [c]) (hf : idx s cmp = some k) (hg : gr = false) (hz : fb (s.take k) 47 = some j) : plTail s cmp gr = 0 := by
  rw [plTail_not h, hf]
  have := fb_some_has hz
  simp only [hg, this]
  simp
theorem tail_greedy {s cmp : Bs} {gr : Bool} {k : Nat} (h : ∀ c, cmp ≠ [c]) (hf : idx s cmp = some k) (hg : gr = true) : plTail s cmp gr = k := by
  rw [plTail_not h, hf]; simp [hg]
theorem idxGo_le {sub : Bs} : ∀ {n : Nat} {s : Bs} {i k : Nat}, idxGo sub n s i = some k → k ≤ i + s.length
  | 0, s, i, k, h => by cases h
  | n + 1, s, i, k, h => by
    unfold idxGo at h
    split at h
    · cases h
    · split at h
      · cases h; omega
      · rename_i h1 h2
        have := idxGo_le h
        rw [List.length_drop] at this
        rcases Nat.eq_zero_or_pos s.length with h0 | h0
        · exfalso
          have hs : s = [] := List.length_eq_zero_iff.1 h0
          have hb : sub = [] := List.length_eq_zero_iff.1 (by omega)
          subst hs hb
          simp at h2
        · omega
theorem idx_le {s sub : Bs} {k : Nat} (h : idx s sub = some k) : k ≤ s.length := by
  have := idxGo_le h
  omega
theorem countGo_le {sub : Bs} (h0 : sub ≠ []) : ∀ {n : Nat} {s : Bs}, countGo sub n s ≤ s.length
  | 0, s => by simp [countGo]
  | n + 1, s => by
    have hl : 0 < sub.length := List.length_pos_iff.2 h0
    unfold countGo
    split
    · omega
    · split
      · have := countGo_le h0 (n := n) (s := s.drop sub.length)
        rw [List.length_drop] at this
        omega
      · have := countGo_le h0 (n := n) (s := s.drop 1)
        rw [List.length_drop] at this
        omega
theorem countS_le (s : ByteArray) (sub : Bs) : countS s.data.toList sub ≤ s.size + 1 := by
  unfold countS
  split
  · rw [Lib.runeCountL_eq]; have := Lib.runeCount_le s; omega
  · rename_i h
    have := countGo_le h (n := s.data.toList.length + 1) (s := s.data.toList)
    rw [size_data] at this
    rw [size_data]
    omega

set_option maxHeartbeats 4000000 in
theorem paramLen_any (s : ByteArray) (g : Nat) (x : Seg) (cv : Value) (w : World) (hs : s.size ≤ 1000000000) (h : SegObj w g x cv) (hp0 : 0 ≤ x.partCount) (hp : x.partCount ≤ 140737488351232) (hc : x.cmp.length ≤ 140737488351232)
    (hl0 : 0 ≤ x.length) (hl1 : x.length ≤ 140737488351232) :
    Calls Tryz.prog 56 #[.string s, .pointer (some ⟨g, 0, none⟩)] w fun e w' => e = .returned (.int .i64 (paramLen s.data.toList x)) ∧ Below w.heap.size w w' := by
  have c7 := h.cell 7 _ rfl
  have HH := Lib.hid h
  clear h
  cases hl : x.last with
  | true =>
    rw [hl] at c7
    have HL := Lib.hid hl
    clear hl
    go_enter Tryz.func56, Tryz.ntmps56
    go_wp2_with fail
    refine (lastSeg_any s g x cv _ (by omega) HH.out HL.out).mono ?_
    rintro e w' ⟨rfl, rfl⟩
    go_wp2
    go_ret
    exact ⟨rfl, Below.refl _ _⟩
  | false =>
    rw [hl] at c7
    have HL := Lib.hid hl
    clear hl
    have c10 := HH.out.cell 10 _ rfl
    obtain ⟨m, hm⟩ : ∃ m : Nat, x.length = m := ⟨x.length.toNat, by omega⟩
    have HM := Lib.hid hm
    rw [hm] at c10 hl1
    clear hm hl0
    by_cases h2 : m ≠ 0 ∧ m ≤ s.size
    · obtain ⟨h2, h3⟩ := h2
      have hq : ((m : Int) != 0) = true := by simp [bne_iff_ne]; exact h2
      have HP := Lib.hid (pl_fixed (s := s.data.toList) HL.out (by rw [HM.out]; omega) (by rw [HM.out, size_data]; omega))
      go_enter Tryz.func56, Tryz.ntmps56
      go_wp2
      go_ret
      exact ⟨ret_int (by rw [HP.out, HM.out]; simp), Below.refl _ _⟩
    · have HQ := Lib.hid (show x.length = 0 ∨ (s.data.toList.length : Int) < x.length by rw [HM.out, size_data]; omega)
      have c5 := HH.out.cell 5 _ rfl
      have c3 := HH.out.cell 3 _ rfl
      obtain ⟨t, ht⟩ : ∃ t, t = bs x.cmp := ⟨_, rfl⟩
      have htd : x.cmp = t.data.toList := by rw [ht, bs_data]
      have hts : t.size ≤ 140737488351232 := by rw [ht]; exact hc
      rw [← ht] at c3
      have HD := Lib.hid htd
      clear ht htd
      cases hg : x.greedy with
      | false =>
        rw [hg] at c5
        have HG := Lib.hid hg
        have HT := Lib.hid (show paramLen s.data.toList x = plTail s.data.toList t.data.toList x.greedy by rw [← HD.out]; exact pl_tail HL.out HQ.out (by rw [HG.out]; simp))
        have HB := Lib.hid (Below.refl w.heap.size w)
        clear hg
        go_enter Tryz.func56, Tryz.ntmps56
        rcases (show m = 0 ∨ (0 < m ∧ s.size < m) by omega) with h3 | ⟨h3, h4⟩
        · subst h3
          by_cases h1 : t.size = 1
          · have hi : 0 < t.size := by omega
            have hq1 : ((t.size : Int) == 1) = true := by rw [h1]; rfl
            go_wp2_with fail
            refine (index_any s (t[0]'hi) _).mono ?_
            rintro e w' ⟨rfl, rfl⟩
            have hcm := cmp_one t h1 hi
            cases hf : fb s.data.toList (t[0]'hi) with
            | none =>
              rw [oi_none]
              have HP := Lib.hid (tail_one_none (gr := x.greedy) hcm hf)
              clear hf hcm
              go_wp2
              go_ret
              exact ⟨ret_int (by rw [HT.out, HP.out, size_data]), HB.out⟩
            | some k =>
              rw [oi_some]
              have HP := Lib.hid (tail_one_some (gr := x.greedy) hcm hf)
              have hbn : ((k : Int) != -1) = true := by simp [bne_iff_ne]
              clear hf hcm
              go_wp2
              go_ret
              exact ⟨ret_int (by rw [HT.out, HP.out]), HB.out⟩
          · have hq1 : ((t.size : Int) == 1) = false := by rw [beq_eq_false_iff_ne]; omega
            have hne := cmp_not t h1
            go_wp2_with fail
            refine (idx_any s t _ (by omega) hts).mono ?_
            rintro e w' ⟨rfl, rfl⟩
            cases hf : idx s.data.toList t.data.toList with
            | none =>
              rw [oi_none]
              have HP := Lib.hid (tail_none (gr := x.greedy) hne hf)
              clear hf hne
              go_wp2
              go_ret
              exact ⟨ret_int (by rw [HT.out, HP.out, size_data]), HB.out⟩
            | some k =>
              rw [oi_some]
              have hk := idx_le hf
              rw [size_data] at hk
              have hbn : ((k : Int) != -1) = true := by simp [bne_iff_ne]
              have HF := Lib.hid hf
              have HN := Lib.hid hne
              have hex := Lib.hid (extract_range s 0 k)
              clear hf hne
              cases hz : fb (s.data.toList.take k) 47 with
              | none =>
                have HZ := Lib.hid hz
                have HP := Lib.hid (tail_free HN.out HF.out (HG.out) hz)
                clear hz
                go_wp2_with (go_at_call 62; refine (index_any _ 47 _).mono ?_; rintro e w' ⟨rfl, rfl⟩; rw [hex.out, List.drop_zero, Nat.sub_zero, HZ.out, oi_none])
                go_ret
                exact ⟨ret_int (by rw [HT.out, HP.out]), HB.out⟩
              | some j =>
                have hbj : ((j : Int) != -1) = true := by simp [bne_iff_ne]
                have HZ := Lib.hid hz
                have HP := Lib.hid (tail_held HN.out HF.out (HG.out) hz)
                clear hz
                go_wp2_with (go_at_call 62; refine (index_any _ 47 _).mono ?_; rintro e w' ⟨rfl, rfl⟩; rw [hex.out, List.drop_zero, Nat.sub_zero, HZ.out, oi_some])
                go_ret
                exact ⟨ret_int (by rw [HT.out, HP.out]; rfl), HB.out⟩
        · have hq : ((m : Int) != 0) = true := by simp [bne_iff_ne]; omega
          by_cases h1 : t.size = 1
          · have hi : 0 < t.size := by omega
            have hq1 : ((t.size : Int) == 1) = true := by rw [h1]; rfl
            go_wp2_with fail
            refine (index_any s (t[0]'hi) _).mono ?_
            rintro e w' ⟨rfl, rfl⟩
            have hcm := cmp_one t h1 hi
            cases hf : fb s.data.toList (t[0]'hi) with
            | none =>
              rw [oi_none]
              have HP := Lib.hid (tail_one_none (gr := x.greedy) hcm hf)
              clear hf hcm
              go_wp2
              go_ret
              exact ⟨ret_int (by rw [HT.out, HP.out, size_data]), HB.out⟩
            | some k =>
              rw [oi_some]
              have HP := Lib.hid (tail_one_some (gr := x.greedy) hcm hf)
              have hbn : ((k : Int) != -1) = true := by simp [bne_iff_ne]
              clear hf hcm
              go_wp2
              go_ret
              exact ⟨ret_int (by rw [HT.out, HP.out]), HB.out⟩
          · have hq1 : ((t.size : Int) == 1) = false := by rw [beq_eq_false_iff_ne]; omega
            have hne := cmp_not t h1
            go_wp2_with fail
            refine (idx_any s t _ (by omega) hts).mono ?_
            rintro e w' ⟨rfl, rfl⟩
            cases hf : idx s.data.toList t.data.toList with
            | none =>
              rw [oi_none]
              have HP := Lib.hid (tail_none (gr := x.greedy) hne hf)
              clear hf hne
              go_wp2
              go_ret
              exact ⟨ret_int (by rw [HT.out, HP.out, size_data]), HB.out⟩
            | some k =>
              rw [oi_some]
              have hk := idx_le hf
              rw [size_data] at hk
              have hbn : ((k : Int) != -1) = true := by simp [bne_iff_ne]
              have HF := Lib.hid hf
              have HN := Lib.hid hne
              have hex := Lib.hid (extract_range s 0 k)
              clear hf hne
              cases hz : fb (s.data.toList.take k) 47 with
              | none =>
                have HZ := Lib.hid hz
                have HP := Lib.hid (tail_free HN.out HF.out (HG.out) hz)
                clear hz
                go_wp2_with (go_at_call 62; refine (index_any _ 47 _).mono ?_; rintro e w' ⟨rfl, rfl⟩; rw [hex.out, List.drop_zero, Nat.sub_zero, HZ.out, oi_none])
                go_ret
                exact ⟨ret_int (by rw [HT.out, HP.out]), HB.out⟩
              | some j =>
                have hbj : ((j : Int) != -1) = true := by simp [bne_iff_ne]
                have HZ := Lib.hid hz
                have HP := Lib.hid (tail_held HN.out HF.out (HG.out) hz)
                clear hz
                go_wp2_with (go_at_call 62; refine (index_any _ 47 _).mono ?_; rintro e w' ⟨rfl, rfl⟩; rw [hex.out, List.drop_zero, Nat.sub_zero, HZ.out, oi_some])
                go_ret
                exact ⟨ret_int (by rw [HT.out, HP.out]; rfl), HB.out⟩
      | true =>
        rw [hg] at c5
        have HG := Lib.hid hg
        clear hg
        go_enter Tryz.func56, Tryz.ntmps56
        rcases (show m = 0 ∨ (0 < m ∧ s.size < m) by omega) with h3 | ⟨h3, h4⟩
        · subst h3
          go_wp2_with fail
          refine (count_any s t _ (by omega) hts).mono ?_
          rintro e w1 ⟨rfl, hb⟩
          have HO1 := Lib.hid (HH.out.below hb HH.out.lt)
          have c5 := HO1.out.cell 5 _ rfl
          have c3 := HO1.out.cell 3 _ rfl
          have c4 := HO1.out.cell 4 _ rfl
          rw [HD.out, bs_of] at c3
          rw [HG.out] at c5
          have HB := Lib.hid hb
          have hcl := countS_le s t.data.toList
          clear hb
          obtain ⟨n, hn⟩ : ∃ n, n = countS s.data.toList t.data.toList := ⟨_, rfl⟩
          rw [← hn] at hcl
          rw [← hn]
          have HN := Lib.hid hn
          clear hn
          by_cases h1 : 1 < n
          · have HP := Lib.hid (pl_greedy (s := s.data.toList) HL.out HQ.out HG.out (by rw [HD.out, ← HN.out]; exact h1))
            go_wp2_with fail
            refine (greedyLen_any s n g x cv _ (by omega) (by omega) HO1.out hp0 hp hc).mono ?_
            rintro e w' ⟨rfl, rfl⟩
            go_wp2
            go_ret
            exact ⟨ret_int (by rw [HP.out, HN.out, HD.out]), HB.out⟩
          · have HT := Lib.hid (show paramLen s.data.toList x = plTail s.data.toList t.data.toList x.greedy by rw [← HD.out]; exact pl_tail HL.out HQ.out (by rw [HD.out, ← HN.out]; omega))
            by_cases h1 : t.size = 1
            · have hi : 0 < t.size := by omega
              have hq1 : ((t.size : Int) == 1) = true := by rw [h1]; rfl
              go_wp2_with fail
              refine (index_any s (t[0]'hi) _).mono ?_
              rintro e w' ⟨rfl, rfl⟩
              have hcm := cmp_one t h1 hi
              cases hf : fb s.data.toList (t[0]'hi) with
              | none =>
                rw [oi_none]
                have HP := Lib.hid (tail_one_none (gr := x.greedy) hcm hf)
                clear hf hcm
                go_wp2
                go_ret
                exact ⟨ret_int (by rw [HT.out, HP.out, size_data]), HB.out⟩
              | some k =>
                rw [oi_some]
                have HP := Lib.hid (tail_one_some (gr := x.greedy) hcm hf)
                have hbn : ((k : Int) != -1) = true := by simp [bne_iff_ne]
                clear hf hcm
                go_wp2
                go_ret
                exact ⟨ret_int (by rw [HT.out, HP.out]), HB.out⟩
            · have hq1 : ((t.size : Int) == 1) = false := by rw [beq_eq_false_iff_ne]; omega
              have hne := cmp_not t h1
              go_wp2_with fail
              refine (idx_any s t _ (by omega) hts).mono ?_
              rintro e w' ⟨rfl, rfl⟩
              cases hf : idx s.data.toList t.data.toList with
              | none =>
                rw [oi_none]
                have HP := Lib.hid (tail_none (gr := x.greedy) hne hf)
                clear hf hne
                go_wp2
                go_ret
                exact ⟨ret_int (by rw [HT.out, HP.out, size_data]), HB.out⟩
              | some k =>
                rw [oi_some]
                have hk := idx_le hf
                rw [size_data] at hk
                have hbn : ((k : Int) != -1) = true := by simp [bne_iff_ne]
                have HP := Lib.hid (tail_greedy hne hf (HG.out))
                clear hf hne
                go_wp2
                go_ret
                exact ⟨ret_int (by rw [HT.out, HP.out]), HB.out⟩
        · have hq : ((m : Int) != 0) = true := by simp [bne_iff_ne]; omega
          go_wp2_with fail
          refine (count_any s t _ (by omega) hts).mono ?_
          rintro e w1 ⟨rfl, hb⟩
          have HO1 := Lib.hid (HH.out.below hb HH.out.lt)
          have c5 := HO1.out.cell 5 _ rfl
          have c3 := HO1.out.cell 3 _ rfl
          have c4 := HO1.out.cell 4 _ rfl
          rw [HD.out, bs_of] at c3
          rw [HG.out] at c5
          have HB := Lib.hid hb
          have hcl := countS_le s t.data.toList
          clear hb
          obtain ⟨n, hn⟩ : ∃ n, n = countS s.data.toList t.data.toList := ⟨_, rfl⟩
          rw [← hn] at hcl
          rw [← hn]
          have HN := Lib.hid hn
          clear hn
          by_cases h1 : 1 < n
          · have HP := Lib.hid (pl_greedy (s := s.data.toList) HL.out HQ.out HG.out (by rw [HD.out, ← HN.out]; exact h1))
            go_wp2_with fail
            refine (greedyLen_any s n g x cv _ (by omega) (by omega) HO1.out hp0 hp hc).mono ?_
            rintro e w' ⟨rfl, rfl⟩
            go_wp2
            go_ret
            exact ⟨ret_int (by rw [HP.out, HN.out, HD.out]), HB.out⟩
          · have HT := Lib.hid (show paramLen s.data.toList x = plTail s.data.toList t.data.toList x.greedy by rw [← HD.out]; exact pl_tail HL.out HQ.out (by rw [HD.out, ← HN.out]; omega))
            by_cases h1 : t.size = 1
            · have hi : 0 < t.size := by omega
              have hq1 : ((t.size : Int) == 1) = true := by rw [h1]; rfl
              go_wp2_with fail
              refine (index_any s (t[0]'hi) _).mono ?_
              rintro e w' ⟨rfl, rfl⟩
              have hcm := cmp_one t h1 hi
              cases hf : fb s.data.toList (t[0]'hi) with
              | none =>
                rw [oi_none]
                have HP := Lib.hid (tail_one_none (gr := x.greedy) hcm hf)
                clear hf hcm
                go_wp2
                go_ret
                exact ⟨ret_int (by rw [HT.out, HP.out, size_data]), HB.out⟩
              | some k =>
                rw [oi_some]
                have HP := Lib.hid (tail_one_some (gr := x.greedy) hcm hf)
                have hbn : ((k : Int) != -1) = true := by simp [bne_iff_ne]
                clear hf hcm
                go_wp2
                go_ret
                exact ⟨ret_int (by rw [HT.out, HP.out]), HB.out⟩
            · have hq1 : ((t.size : Int) == 1) = false := by rw [beq_eq_false_iff_ne]; omega
              have hne := cmp_not t h1
              go_wp2_with fail
              refine (idx_any s t _ (by omega) hts).mono ?_
              rintro e w' ⟨rfl, rfl⟩
              cases hf : idx s.data.toList t.data.toList with
              | none =>
                rw [oi_none]
                have HP := Lib.hid (tail_none (gr := x.greedy) hne hf)
                clear hf hne
                go_wp2
                go_ret
                exact ⟨ret_int (by rw [HT.out, HP.out, size_data]), HB.out⟩
              | some k =>
                rw [oi_some]
                have hk := idx_le hf
                rw [size_data] at hk
                have hbn : ((k : Int) != -1) = true := by simp [bne_iff_ne]
                have HP := Lib.hid (tail_greedy hne hf (HG.out))
                clear hf hne
                go_wp2
                go_ret
                exact ⟨ret_int (by rw [HT.out, HP.out]), HB.out⟩
end Go.Proofs.YtiebedcldbmlhaaGreatDoor
namespace Go.Proofs.YtiebedcldbmlhaaGreatDoor
open Go.RowKit
set_option linter.unusedVariables false

theorem trimRight_le (s : Bs) (c : UInt8) : (trimRight s c).length ≤ s.length := by
  unfold trimRight
  rw [List.length_reverse]
  have := (List.dropWhile_sublist (fun x => x == c) (l := s.reverse)).length_le
  simpa using this
theorem cmpBack_le {B : Nat} : ∀ L : List Seg, (∀ x ∈ L, x.const.length ≤ B) → (cmpBack L).2.length ≤ B
  | [], _ => by simp [cmpBack]
  | x :: r, h => by
    cases hp : x.isParam with
    | true => rw [cmpBack_param hp]; exact cmpBack_le r fun y hy => h y (List.mem_cons_of_mem _ hy)
    | false =>
      rw [cmpBack_const hp]
      have := h x (List.mem_cons_self ..)
      simp only
      split
      · exact Nat.le_trans (trimRight_le _ _) this
      · exact this

theorem cmpBack_facts {B : Nat} : ∀ L : List Seg, (∀ x ∈ L, x.const.length ≤ B ∧ x.partCount = 0 ∧ x.cmp = []) → ∀ y ∈ (cmpBack L).1, y.const.length ≤ B ∧ y.partCount = 0 ∧ y.cmp.length ≤ B
  | [], _, y, hy => by simp [cmpBack] at hy
  | x :: r, h, y, hy => by
    have ih := cmpBack_facts r fun z hz => h z (List.mem_cons_of_mem _ hz)
    have hx := h x (List.mem_cons_self ..)
    cases hp : x.isParam with
    | true =>
      rw [cmpBack_param hp] at hy
      rcases List.mem_cons.1 hy with rfl | hy
      · refine ⟨hx.1, hx.2.1, ?_⟩
        have h1 := List.length_filter_le (· != 92) (cmpBack r).2
        have h2 := cmpBack_le (B := B) r fun z hz => (h z (List.mem_cons_of_mem _ hz)).1
        show (List.filter (· != 92) _).length ≤ _
        omega
      · exact ih y hy
    | false =>
      rw [cmpBack_const hp] at hy
      rcases List.mem_cons.1 hy with rfl | hy
      · exact ⟨hx.1, hx.2.1, by rw [hx.2.2]; simp⟩
      · exact ih y hy

theorem SegsIn.drewN {w : World} {gs : List Nat} {L : List Seg} {cvs : List Value} (h : SegsIn w gs L cvs) (n : Nat) : SegsIn (w.drewN n) gs L cvs := h
theorem Touch.drewN {gs : List Nat} {w w' : World} (h : Touch gs w w') (n : Nat) : Touch gs w (w'.drewN n) := ⟨h.os, h.tape, h.output, h.size, h.block⟩
/-- Is the next segment a plain parameter, as this one is? -/
def lenB (x : Seg) (r : List Seg) : Bool := match r with
  | [] => false
  | z :: _ => !x.greedy && z.isParam && !z.greedy
def lenOf (x : Seg) (r : List Seg) : Int := if lenB x r then 1 else x.length
def addC (cmp : Bs) (n : Int) (z : Seg) : Int := if z.isParam then n else n + countS z.const cmp
theorem addC_fold (cmp : Bs) : ∀ (l : List Seg), (∀ y ∈ l, y.const.length ≤ 1000000) → ∀ n0 : Int, n0 = 0 → 0 ≤ l.foldl (addC cmp) n0 ∧ l.foldl (addC cmp) n0 ≤ l.length * 1000001 := by
  have key : ∀ (l : List Seg), (∀ y ∈ l, y.const.length ≤ 1000000) → ∀ n0 : Int, 0 ≤ n0 → 0 ≤ l.foldl (addC cmp) n0 ∧ l.foldl (addC cmp) n0 ≤ n0 + l.length * 1000001 := by
    intro l
    induction l with
    | nil => intro _ n0 h0; simp; omega
    | cons z l ih =>
      intro h n0 h0
      have hz := h z (List.mem_cons_self ..)
      have hc := countS_le (bs z.const) cmp
      rw [bs_data, bs_size] at hc
      have hs : 0 ≤ addC cmp n0 z ∧ addC cmp n0 z ≤ n0 + 1000001 := by unfold addC; split <;> omega
      have := ih (fun y hy => h y (List.mem_cons_of_mem _ hy)) (addC cmp n0 z) hs.1
      rw [List.foldl_cons, List.length_cons]
      omega
  intro l h n0 h0
  subst h0
  have := key l h 0 (by omega)
  omega
theorem mf_param {x : Seg} {r T : List Seg} (h : metaFwd (x :: r) = some T) (hp : x.isParam = true) :
    ∃ T', metaFwd r = some T' ∧ T = { x with length := lenOf x r, partCount := if x.cmp = [] then x.partCount else r.foldl (addC x.cmp) x.partCount } :: T' := by
  unfold metaFwd at h
  simp only [hp, if_true] at h
  cases hr : metaFwd r with
  | none => rw [hr] at h; simp at h
  | some T' =>
    rw [hr] at h
    simp only [Option.some.injEq] at h
    refine ⟨T', rfl, h.symm.trans ?_⟩
    rw [hp]
    congr 2
    clear h hr
    unfold lenOf lenB
    cases r with
    | nil => simp
    | cons z r => rfl
theorem mf_const {x : Seg} {r T : List Seg} (h : metaFwd (x :: r) = some T) (hp : x.isParam = false) :
    ∃ c T', x.const.getLast? = some c ∧ metaFwd r = some T' ∧ T = (if c = 47 ∧ (x.last = true ∨ (r.head?.map (·.optional)) = some true) then { x with optSlash := true } else x) :: T' := by
  unfold metaFwd at h
  simp only [hp, Bool.false_eq_true, if_false] at h
  cases hc : x.const.getLast? with
  | none => rw [hc] at h; simp at h
  | some c =>
    rw [hc] at h
    simp only at h
    cases hr : metaFwd r with
    | none => rw [hr] at h; simp at h
    | some T' =>
      rw [hr] at h
      simp only [Option.some.injEq] at h
      exact ⟨c, T', rfl, rfl, by rw [hp]; exact h.symm⟩
theorem mid_set {D R : List Seg} {x y : Seg} {k : Nat} (hD : D.length = k) : (D ++ x :: R).set k y = (D ++ [y]) ++ R := by
  subst hD; simp
theorem mid_same {D R : List Seg} {x : Seg} : D ++ x :: R = (D ++ [x]) ++ R := by simp
theorem bs_last (t : ByteArray) {c : UInt8} (h : t.data.toList.getLast? = some c) : ∃ hl : t.size - 1 < t.size, t[t.size - 1]'hl = c := by
  have h0 : 0 < t.size := by
    rcases Nat.eq_zero_or_pos t.size with h1 | h1
    · have : t.data.toList = [] := List.length_eq_zero_iff.1 (by rw [size_data]; exact h1)
      rw [this] at h; simp at h
    · exact h1
  have hl : t.size - 1 < t.size := by omega
  rw [data_last t hl] at h
  exact ⟨hl, Option.some.inj h⟩

end Go.Proofs.YtiebedcldbmlhaaGreatDoor
