/-
  Joined: splitNonEscaped, of any text and a sign of one byte; zzIndexRune and zzContainsRune of a rune that is one byte; analyseConstantPart; the lists of signs of functions 68.
  Conditions: each law's own.
-/
import Derived.Test.YtiebedcldbmlhaaGreatDoorK22
import Derived.Lib.ConvBytes
namespace Go.Proofs.YtiebedcldbmlhaaGreatDoor
open Go.RowKit
set_option linter.unusedVariables false

def svals (l : List Bs) : List Value := l.map fun s => .string (bs s)
theorem svals_one (l : List Bs) : ∀ u ∈ svals l, u.oneCell' = true := by
  intro u hu
  obtain ⟨s, _, rfl⟩ := List.mem_map.1 hu
  rfl
theorem svals_append (a b : List Bs) : svals (a ++ b) = svals a ++ svals b := by simp [svals]
theorem info9 : (Tryz.prog.info? 9).map (fun i => (i.zero, i.size, i.bytes)) = some (some (.string ⟨#[]⟩), 1, 16) := by kernel_rfl

theorem splitGo_none {sep : UInt8} {k : Nat} {s : Bs} (h : nne s [sep] = none) : splitGo sep k s = [s] := by
  cases k with
  | zero => rfl
  | succ k => unfold splitGo; rw [h]
theorem splitGo_some {sep : UInt8} {k i : Nat} {s : Bs} (h : nne s [sep] = some i) : splitGo sep (k + 1) s = s.take i :: splitGo sep k (s.drop (i + 1)) := by
  conv => lhs; unfold splitGo
  rw [h]

theorem under5 : Tryz.prog.underlying 5 = some (.int .u8) := by kernel_rfl
theorem under9 : Tryz.prog.underlying 9 = some .string := by kernel_rfl

/-- '[]byte(s)': a new row. -/
theorem conv_bytes (w : World) (cs : Bs) : ∃ cap w', (convert 9 23 (.string (bs cs))).run Tryz.prog w = .ok (.slice (some ⟨w.heap.size, 0, none⟩) cs.length cap) w' ∧ ByteCells w' w.heap.size 0 cs ∧ Below w.heap.size w w' ∧ w'.heap.size = w.heap.size + 1 := by
  refine ⟨_, _, Lib.run_convert_string_bytes w 9 23 5 (bs cs) under9 Tryz.underlying23 under5, ?_, ?_, Lib.bytesWorld_size w 5 (bs cs)⟩
  · intro i hi
    rw [Nat.zero_add, Lib.bytesWorld_cell w 5 (bs cs) i (by rw [bs_size]; exact hi), bs_data]
  · refine ⟨rfl, rfl, rfl, by rw [Lib.bytesWorld_size]; omega, fun k hk => Lib.bytesWorld_at_old w 5 (bs cs) k hk⟩

/-- 'string(b)' of a row of bytes. -/
theorem conv_back {w : World} {g : Nat} {cs : Bs} (cap : Nat) (h : ByteCells w g 0 cs) : (convert 23 9 (.slice (some ⟨g, 0, none⟩) cs.length cap)).run Tryz.prog w = .ok (.string (bs cs)) w :=
  run_convert_bytes_back w 23 9 5 _ cap cs Tryz.underlying23 under5 under9 fun j hj => by
    rw [add_cell, Nat.zero_add]
    have := h j hj
    simpa [List.getD, hj] using this

theorem take_bs (r : ByteArray) (k : Nat) : bs (r.data.toList.take k) = r.extract 0 k := by
  rw [bytes_ext, bs_data, extract_range]; simp
theorem grown_of_below {w w' : World} (hb : Below w.heap.size w w') : w.grownBy w' none := ⟨hb.os, hb.tape, hb.output, hb.size, fun k hk _ => hb.block k hk⟩
theorem own_below {w w' : World} {base : Nat} {e : TypeId} {sz n : Nat} {v : Value} {xs : List Value} (h : w.ownsRow base e sz v n xs) (hb : Below w.heap.size w w') : w'.ownsRow base e sz v n xs :=
  h.kept (grown_of_below hb) (by cases hv : v.ownBlock <;> simp)
def strSize : Value → Nat
  | .string s => s.size
  | _ => 0

set_option maxHeartbeats 4000000 in
set_option maxRecDepth 100000 in
theorem split_any (s : ByteArray) (sep : UInt8) (w : World) (hs : s.size ≤ 1000000000) :
    Calls Tryz.prog 75 #[.string s, .string (bs [sep])] w fun e w' => ∃ v, e = .returned v ∧ w'.ownsRow w.heap.size 9 1 v (splitNE s.data.toList sep).length (svals (splitNE s.data.toList sep)) ∧ Below w.heap.size w w' := by
  obtain ⟨i0, hi, hz0, hz1, hz2⟩ := info_parts info9
  obtain ⟨cap, w1, hconv, hc1, hb1, hsz1⟩ := conv_bytes w [sep]
  go_enter Tryz.func75, Tryz.ntmps75
  go_wp2_with fail
  refine (nne_any s _ 0 cap [sep] w1 (by omega) (by simp) hc1).mono ?_
  rintro e w1' ⟨rfl, rfl⟩
  have HB := Lib.hid hb1
  clear hconv hc1 hb1
  go_wp2
  go_loopw [0, 5, 6] (fun a v i wr => ∃ (r : ByteArray) (acc : List Bs) (fuel : Nat), a = .string r ∧ i = .int .i64 (oi (nne r.data.toList [sep])) ∧ r.size ≤ fuel ∧ acc.length + r.size ≤ s.size ∧ acc ++ splitGo sep fuel r.data.toList = splitNE s.data.toList sep ∧ wr.ownsRow w.heap.size 9 1 v acc.length (svals acc) ∧ Below w.heap.size w wr) (fun a _ _ _ => strSize a)
  case atStart => exact ⟨s, [], s.size, rfl, rfl, Nat.le_refl _, by simp, by simp [splitNE], World.ownsRow_nil _ _ _ _, HB.out⟩
  case round =>
    obtain ⟨r, acc, fuel, rfl, rfl, hf, hl, hg, hown, hb⟩ := hrel
    have HG := Lib.hid hg
    have HO := Lib.hid hown
    have HBr := Lib.hid hb
    clear hg hown hb
    cases hN : nne r.data.toList [sep] with
    | none =>
      rw [oi_none]
      have HS := Lib.hid (splitGo_none (k := fuel) hN)
      clear hN
      go_wp2_with (at_builtin; refine wpList_append_own _ rfl (.tmp 29) (.tmp 31) 22 rfl w.heap.size 9 i0 (.string ⟨#[]⟩) 1 16 Tryz.underlying22 hi hz0 hz1 hz2 rfl (by decide) _ _ _ rfl (HO.out.alloc _) ⟨wr.heap.size, 0, none⟩ 1 1 (svals [r.data.toList]) rfl rfl (fun j u hu => by rw [add_cell, Nat.zero_add, cell_alloc, if_pos rfl]; simpa [objCell, svals, bs_of] using hu) (svals_one _) (by simp [maxLen]; omega) (by omega) (by have := HBr.out.size; simp; omega) ?_; intro v' w2 hown' hgrow hnil')
      have hlt' := fun k' h => (HO.out.lt (k := k') h).1
      have hbw := (HBr.out.alloc (by have := HBr.out.size; omega) (.cells #[.string r] 9)).grown hgrow (by have := HBr.out.size; simp; omega) hlt'
      have hown2 : w2.ownsRow w.heap.size 9 1 v' (splitNE s.data.toList sep).length (svals (splitNE s.data.toList sep)) := by
        rw [← HG.out, HS.out, svals_append]; simpa using hown'
      go_ret
      exact ⟨_, rfl, hown2, hbw⟩
    | some k =>
      rw [oi_some]
      have hk := nne_lt hN
      rw [size_data] at hk
      have HN := Lib.hid hN
      clear hN
      obtain ⟨fuel, rfl⟩ : ∃ j, fuel = j + 1 := ⟨fuel - 1, by omega⟩
      have HS := Lib.hid (splitGo_some (k := fuel) HN.out)
      have hkg : (k : Int) > -1 := by omega
      go_wp2_with (at_builtin; refine wpList_append_own _ rfl (.tmp 13) (.tmp 17) 22 rfl w.heap.size 9 i0 (.string ⟨#[]⟩) 1 16 Tryz.underlying22 hi hz0 hz1 hz2 rfl (by decide) _ _ _ rfl (HO.out.alloc _) ⟨wr.heap.size, 0, none⟩ 1 1 (svals [r.data.toList.take k]) rfl rfl (fun j u hu => by rw [add_cell, Nat.zero_add, cell_alloc, if_pos rfl]; simpa [objCell, svals, take_bs r k] using hu) (svals_one _) (by simp [maxLen]; omega) (by omega) (by have := HBr.out.size; simp; omega) ?_; intro v' w2 hown' hgrow hnil'; obtain ⟨cap2, w3, hconv, hc1, hb1, hsz1⟩ := conv_bytes w2 [sep])
      have hlt' := fun k' h => (HO.out.lt (k := k') h).1
      have hbw := (HBr.out.alloc (by have := HBr.out.size; omega) (.cells #[.string (r.extract 0 k)] 9)).grown hgrow (by have := HBr.out.size; simp; omega) hlt'
      have hown2 : w3.ownsRow w.heap.size 9 1 v' (acc ++ [r.data.toList.take k]).length (svals (acc ++ [r.data.toList.take k])) := by
        rw [svals_append]; simpa using own_below hown' hb1
      have HO2 := Lib.hid hown2
      have HB2 := Lib.hid (hbw.trans (hb1.mono (by have := hbw.size; have := HBr.out.size; omega)))
      have hex := Lib.hid (extract_from r (k + 1))
      have hex2 := Lib.hid (extract_range r (k + 1) r.size)
      clear hown' hgrow hnil' hown2 hbw hlt' hconv hb1
      refine (nne_any _ _ 0 cap2 [sep] _ (by simp; omega) (by simp) hc1).mono ?_
      rintro e w' ⟨rfl, rfl⟩
      go_wp2
      go_roundw
      case rel => exact ⟨r.extract (k + 1) r.size, acc ++ [r.data.toList.take k], fuel, rfl, by rw [hex2.out], by simp; omega, by simp; omega, by rw [hex.out, ← HG.out, HS.out]; simp, HO2.out, HB2.out⟩
      case measure => simp [strSize]; omega
end Go.Proofs.YtiebedcldbmlhaaGreatDoor
namespace Go.Proofs.YtiebedcldbmlhaaGreatDoor
open Go.RowKit
set_option linter.unusedVariables false

theorem mem_drop_iff (s : ByteArray) (c : UInt8) (p : Nat) (hp : p < s.size) (hlow : c.toNat < 128) :
    c ∈ s.data.toList.drop p ↔ ((Utf8.decode s p).1 = c.toNat ∨ c ∈ s.data.toList.drop (p + (Utf8.decode s p).2)) := by
  have hcons : ∀ q (hq : q < s.size), s.data.toList.drop q = s[q]'hq :: s.data.toList.drop (q + 1) := by
    intro q hq
    rw [List.drop_eq_getElem_cons (by simpa using hq)]
    rfl
  by_cases ha : (s[p]'hp).toNat < 128
  · rw [decode_ascii s p hp ha, hcons p hp]
    simp only [List.mem_cons]
    have : (s[p]'hp).toNat = c.toNat ↔ c = s[p]'hp := ⟨fun h => (UInt8.toNat_inj.1 h).symm, fun h => by rw [h]⟩
    rw [this]
  · have ha' : 128 ≤ (s[p]'hp).toNat := by omega
    have h1 := (decode_high s p hp ha').1
    have hne : ¬ (Utf8.decode s p).1 = c.toNat := by omega
    have hskip : ∀ n, n ≤ (Utf8.decode s p).2 → (c ∈ s.data.toList.drop p ↔ c ∈ s.data.toList.drop (p + n)) := by
      intro n
      induction n with
      | zero => intro _; rfl
      | succ n ih =>
        intro hn
        rw [ih (by omega)]
        have hlt : p + n < s.size := by have := Utf8_end s p hp; omega
        have hh := Utf8_high s p hp ha' n (by omega)
        rw [hcons (p + n) hlt, List.mem_cons]
        have hx : ¬ c = s[p + n]'hlt := by
          rintro rfl
          rw [show s.get! (p + n) = s[p + n]'hlt from get_at s (p + n) hlt] at hh
          omega
        simp [hx, Nat.add_assoc]
    rw [hskip _ (Nat.le_refl _)]
    simp [hne]

set_option maxHeartbeats 1000000 in
theorem indexRune_any (s : ByteArray) (c : UInt8) (hlow : c.toNat < 128) (w : World) (hs : s.size ≤ 1000000000) :
    Calls Tryz.prog 96 #[.string s, .int .i32 (c.toNat : Int)] w fun e w' => ∃ q : Int, e = .returned (.int .i64 q) ∧ -1 ≤ q ∧ (0 ≤ q ↔ c ∈ s.data.toList) ∧ Below w.heap.size w w' := by
  have b1 : ((c.toNat : Int) != 65533) = true := by rw [bne_iff_ne]; omega
  have b2 : ¬ (c.toNat : Int) < 0 := by omega
  have b3 : ¬ (1114111 : Int) < (c.toNat : Int) := by omega
  have b4 : ¬ (55296 : Int) ≤ (c.toNat : Int) := by omega
  go_enter Tryz.func96, Tryz.ntmps96
  go_wp2
  go_loopw [4] (fun _ wr => ∃ pos : Nat, wr = w.iter s pos ∧ pos ≤ s.size ∧ (c ∈ s.data.toList.drop pos ↔ c ∈ s.data.toList)) (fun _ wr => s.size - wr.iterPos w.heap.size)
  case atStart => exact ⟨0, rfl, by omega, by simp⟩
  case round =>
    obtain ⟨pos, rfl, hps, hc⟩ := hrel
    have HC := Lib.hid hc
    clear hc
    by_cases hp : pos < s.size
    · have hnx : ∀ ty, (Instr.next (.pointer (some ⟨w.heap.size, 0, none⟩)) true ty).run Tryz.prog (w.iter s pos) = _ := fun ty => run_next_any w s pos ty hp
      have hwd := Lib.width_pos s pos
      have hwe := Utf8_end s pos hp
      have HM := Lib.hid (mem_drop_iff s c pos hp hlow)
      by_cases he : (Utf8.decode s pos).1 = c.toNat
      · have hq : (((Utf8.decode s pos).1 : Int) == (c.toNat : Int)) = true := by rw [he]; simp
        have HE := Lib.hid he
        clear he
        go_wp2
        go_ret
        refine ⟨pos, rfl, by omega, ⟨fun _ => HC.out.1 (HM.out.2 (.inl HE.out)), fun _ => by omega⟩, iter_below w s _⟩
      · have hq : (((Utf8.decode s pos).1 : Int) == (c.toNat : Int)) = false := by rw [beq_eq_false_iff_ne]; omega
        have HE := Lib.hid he
        clear he
        go_wp2
        go_roundw
        case rel => exact ⟨pos + (Utf8.decode s pos).2, rfl, by omega, by rw [← HC.out, HM.out]; simp [HE.out]⟩
        case measure =>
          rw [iterPos_of', iterPos_of']
          omega
    · have hnx : ∀ ty, (Instr.next (.pointer (some ⟨w.heap.size, 0, none⟩)) true ty).run Tryz.prog (w.iter s pos) = _ := fun ty => run_next_end w s pos ty hp
      have HN := Lib.hid (show ¬ c ∈ s.data.toList by rw [← HC.out, List.drop_of_length_le (by rw [size_data]; omega)]; simp)
      go_wp2
      go_ret
      exact ⟨-1, rfl, by omega, ⟨fun h => by omega, fun h => absurd h HN.out⟩, iter_below w s pos⟩

theorem containsRune_any (s : ByteArray) (c : UInt8) (hlow : c.toNat < 128) (w : World) (hs : s.size ≤ 1000000000) :
    Calls Tryz.prog 66 #[.string s, .int .i32 (c.toNat : Int)] w fun e w' => e = .returned (.bool (s.data.toList.contains c)) ∧ Below w.heap.size w w' := by
  go_enter Tryz.func66, Tryz.ntmps66
  go_wp2_with fail
  refine (indexRune_any s c hlow w hs).mono ?_
  rintro e w' ⟨q, rfl, hq, hm, hb⟩
  have HM := Lib.hid hm
  clear hm
  by_cases h : 0 ≤ q
  · go_wp2
    go_ret
    exact ⟨ret_bool (by have := HM.out.1 h; simpa using this), hb⟩
  · go_wp2
    go_ret
    exact ⟨ret_bool (by
      have h2 : ¬ c ∈ s.data.toList := fun h' => by have := HM.out.2 h'; omega
      have h3 : ¬ 0 ≤ q := by omega
      simp [h2, h3]), hb⟩

def constSeg (q : Bs) : Seg := { const := unesc q, isParam := false, name := [], cmp := [], partCount := 0, greedy := false, optional := false, last := false, optSlash := false, cons := [], length := (unesc q).length }

theorem seg_new (w : World) (x : Seg) (cv : Value) : SegObj (w.alloc (.cells (segCells x cv).toArray 99)) w.heap.size x cv := by
  show (w.heap.push _)[w.heap.size]? = _
  simp

set_option maxHeartbeats 1000000 in
theorem constPart_any (p : ByteArray) (i : Option Nat) (a : Value) (w : World) (hs : p.size ≤ 1000000000) (hi : ∀ n, i = some n → n ≤ p.size) :
    Calls Tryz.prog 54 #[a, .string p, .int .i64 (oi i)] w fun e w' => ∃ g, e = .returned (.tuple #[.string (bs (constPart p.data.toList i).1), .pointer (some ⟨g, 0, none⟩)]) ∧ w.heap.size ≤ g ∧ SegObj w' g (constPart p.data.toList i).2 (.slice none 0 0) ∧ Below w.heap.size w w' := by
  go_enter Tryz.func54, Tryz.ntmps54
  cases i with
  | none =>
    rw [oi_none]
    go_wp2_with fail
    refine (unesc_any p _ (by omega)).mono ?_
    rintro e w' ⟨rfl, hb⟩
    go_wp2
    go_ret2
    refine ⟨w'.heap.size, ?_, hb.size, seg_new w' (constSeg p.data.toList) (.slice none 0 0), hb.alloc hb.size _⟩
    show Ending.returned (.tuple #[.string p, _]) = Ending.returned (.tuple #[.string (bs p.data.toList), _])
    rw [bs_of]
    rfl
  | some n =>
    have hn := hi n rfl
    rw [oi_some]
    have hbn : ((n : Int) != -1) = true := by simp [bne_iff_ne]
    go_wp2_with fail
    refine (unesc_any _ _ (by simp; omega)).mono ?_
    rintro e w' ⟨rfl, hb⟩
    go_wp2
    go_ret2
    refine ⟨w'.heap.size, ?_, hb.size, seg_new w' (constSeg (p.data.toList.take n)) (.slice none 0 0), hb.alloc hb.size _⟩
    show Ending.returned (.tuple #[.string (p.extract 0 n), _]) = Ending.returned (.tuple #[.string (bs (p.data.toList.take n)), _])
    rw [take_bs]
    rfl
end Go.Proofs.YtiebedcldbmlhaaGreatDoor
