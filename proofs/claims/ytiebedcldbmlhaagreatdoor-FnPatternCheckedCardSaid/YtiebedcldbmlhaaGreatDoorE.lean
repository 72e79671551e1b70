/-
  The last place of a sign, and the next place of a sign outside of constraints. Conditions: of a size that addresses allow.
-/
import Derived.Test.YtiebedcldbmlhaaGreatDoorD
namespace Go.Proofs.YtiebedcldbmlhaaGreatDoor
open Go.RowKit
set_option linter.unusedVariables false

theorem lastIdx_lb (s : ByteArray) (c : UInt8) : ∀ k, k ≤ s.size → Lib.lastIdx s (c.toNat : Int) k = oi (lbGo s.data.toList c k)
  | 0, _ => rfl
  | k + 1, hk => by
    unfold Lib.lastIdx lbGo
    have hb := byte_at s k (by omega)
    have e : s.data[k]! = s[k]'(by omega) := by
      have hk' : k < s.data.size := by have : s.data.size = s.size := rfl; omega
      rw [getElem!_pos s.data k hk']; rfl
    rw [hb, e]
    by_cases h : s[k]'(by omega) = c
    · rw [if_pos (by rw [h]), if_pos (by rw [h])]; rfl
    · rw [if_neg (fun h' => h (UInt8.toNat_inj.1 (by omega))), if_neg (fun h' => h (Option.some.inj h'))]
      exact lastIdx_lb s c k (by omega)

theorem lb_any (s : ByteArray) (c : UInt8) (w : World) (hs : s.size ≤ 140737488351232) :
    Calls Tryz.prog 98 #[.string s, .int .u8 (c.toNat : Int)] w fun e w' => e = .returned (.int .i64 (oi (lb s.data.toList c))) ∧ w = w' :=
  (Tryz.strings_LastIndexByte s (c.toNat : Int) (by omega) w).mono fun e w' ⟨he, hw⟩ => ⟨by rw [he]; exact ret_int (by unfold Lib.lastIndexByte lb; rw [lastIdx_lb s c _ (Nat.le_refl _), size_data]), hw.symm⟩

set_option maxHeartbeats 1000000 in
theorem last_any (s : ByteArray) (b off cap : Nat) (c : UInt8) (w : World) (hs : s.size ≤ 140737488351232) (hc : ByteCells w b off [c]) :
    Calls Tryz.prog 72 #[.string s, .slice (some ⟨b, off, none⟩) 1 cap] w fun e w' => e = .returned (.int .i64 (oi (lb s.data.toList c))) ∧ w = w' := by
  have hck : w.cell? ⟨b, off, none⟩ = some (.int .u8 (c.toNat : Int)) := hc 0 (by simp)
  have yb := oi_ge (lb s.data.toList c)
  obtain ⟨y, hy⟩ : ∃ y, y = oi (lb s.data.toList c) := ⟨_, rfl⟩
  rw [← hy] at yb
  have HY := Lib.hid hy
  clear hy
  go_enter Tryz.func72, Tryz.ntmps72
  go_wp2
  refine wp_loop_rounds 2 ?_
  rw [rounds_succ]
  go_wp2_with fail
  refine (lb_any s c w hs).mono ?_
  rintro e w' ⟨rfl, rfl⟩
  rw [← HY.out]
  by_cases h1 : y = -1
  · subst h1
    go_wp2
    rw [rounds_succ]
    go_wp2
    go_ret
    exact ⟨ret_int HY.out, rfl⟩
  · have b1 : (y != -1) = true := by simpa [bne_iff_ne] using h1
    clear h1
    go_wp2
    all_goals
      rw [rounds_succ]
      go_wp2
      go_ret
      exact ⟨ret_int HY.out, rfl⟩

theorem conStep_take (s : Bs) (cs : Bs) (x y : Int) (k : Nat) (hk : k < cs.length) : (cs.take (k + 1)).foldl (conStep s x y) (-1) = conStep s x y ((cs.take k).foldl (conStep s x y) (-1)) (cs.getD k 0) := by
  have e : cs.getD k 0 = cs[k] := by simp [List.getD, hk]
  rw [List.take_succ_eq_append_getElem hk, List.foldl_append, e]; rfl

/-- One byte's step over numbers. -/
def cstp (x y nx q : Int) : Int := if q ≠ -1 ∧ (q < nx ∨ nx = -1) then (if (q > x ∧ q > y) ∨ (q < x ∧ q < y) then q else nx) else nx
theorem conStep_cstp (s : Bs) (x y nx : Int) (c : UInt8) : conStep s x y nx c = cstp x y nx (oi (fb s c)) := rfl
theorem cstp_a {x y nx q : Int} (h1 : q ≠ -1) (h2 : q < nx ∨ nx = -1) (h3 : (q > x ∧ q > y) ∨ (q < x ∧ q < y)) : cstp x y nx q = q := by unfold cstp; rw [if_pos ⟨h1, h2⟩, if_pos h3]
theorem cstp_b {x y nx q : Int} (h1 : q ≠ -1) (h2 : q < nx ∨ nx = -1) (h3 : ¬ ((q > x ∧ q > y) ∨ (q < x ∧ q < y))) : cstp x y nx q = nx := by unfold cstp; rw [if_pos ⟨h1, h2⟩, if_neg h3]
theorem cstp_c {x y nx q : Int} (h : ¬ (q ≠ -1 ∧ (q < nx ∨ nx = -1))) : cstp x y nx q = nx := by unfold cstp; rw [if_neg h]
theorem cstp_ge {x y nx q : Int} (h1 : -1 ≤ nx) (h2 : -1 ≤ q) : -1 ≤ cstp x y nx q := by unfold cstp; split <;> (try split) <;> omega

set_option maxHeartbeats 4000000 in
theorem nextCon_any (s : ByteArray) (b off cap : Nat) (cs : Bs) (w : World) (hs : s.size ≤ 140737488351232) (hl : cs.length ≤ 1000) (hc : ByteCells w b off cs) (hb : b < w.heap.size) :
    Calls Tryz.prog 67 #[.string s, .slice (some ⟨b, off, none⟩) cs.length cap] w fun e w' => e = .returned (.int .i64 (nextCon s.data.toList cs)) ∧ Below w.heap.size w w' := by
  obtain ⟨x, hx⟩ : ∃ x, x = oi (nne s.data.toList [60]) := ⟨_, rfl⟩
  obtain ⟨y, hy⟩ : ∃ y, y = oi (nne s.data.toList [62]) := ⟨_, rfl⟩
  have xb : -1 ≤ x := by rw [hx]; exact oi_ge _
  have yb : -1 ≤ y := by rw [hy]; exact oi_ge _
  have HX := Lib.hid hx
  have HY := Lib.hid hy
  clear hx hy
  have HR := Lib.hid (show nextCon s.data.toList cs = cs.foldl (conStep s.data.toList x y) (-1) by rw [HX.out, HY.out]; rfl)
  go_enter Tryz.func67, Tryz.ntmps67
  go_wp2_with fail
  refine (chars71 _).mono ?_
  rintro e w1 ⟨g1, cap1, rfl, hc1, _, _, hb1⟩
  go_wp2_with fail
  refine (nne_any s g1 0 cap1 [60] w1 hs (by decide) hc1).mono ?_
  rintro e w1' ⟨rfl, rfl⟩
  rw [← HX.out]
  clear hc1
  go_wp2_with fail
  refine (chars73 _).mono ?_
  rintro e w2 ⟨g2, cap2, rfl, hc2, _, _, hb2⟩
  go_wp2_with fail
  refine (nne_any s g2 0 cap2 [62] w2 hs (by decide) hc2).mono ?_
  rintro e w2' ⟨rfl, rfl⟩
  rw [← HY.out]
  have HB := Lib.hid (hb1.trans (hb2.mono hb1.size))
  have HC := Lib.hid (hc.below HB.out hb)
  clear hc2 hb1 hb2 hc
  go_wp2
  go_loop [7, 19] (fun nx i => ∃ k : Nat, k ≤ cs.length ∧ i = .int .i64 k ∧ ∃ v : Int, nx = .int .i64 v ∧ -1 ≤ v ∧ v = (cs.take k).foldl (conStep s.data.toList x y) (-1)) (fun _ i => cs.length - (intOf i).toNat)
  case atStart => exact ⟨0, Nat.zero_le _, rfl, -1, rfl, by omega, by simp⟩
  case round =>
    obtain ⟨k, hk, rfl, v, rfl, hv, hf⟩ := hrel
    have HF := Lib.hid hf
    clear hf
    by_cases hlt : k < cs.length
    · have hck := HC.out k hlt
      have hst := conStep_take s.data.toList cs x y k hlt
      rw [← HF.out] at hst
      obtain ⟨c, hcd⟩ : ∃ c, c = cs.getD k 0 := ⟨_, rfl⟩
      rw [← hcd] at hck hst
      obtain ⟨q, hq⟩ : ∃ q, q = oi (fb s.data.toList c) := ⟨_, rfl⟩
      have qb : -1 ≤ q := by rw [hq]; exact oi_ge _
      rw [conStep_cstp, ← hq] at hst
      have HQ := Lib.hid hq
      have HS := Lib.hid hst
      clear hq hst hcd
      go_wp2_with fail
      refine (index_any s c _).mono ?_
      rintro e w' ⟨rfl, rfl⟩
      rw [← HQ.out]
      clear hck
      by_cases h1 : q = -1
      · have HT := Lib.hid (HS.out.trans (cstp_c (fun h => h.1 h1)))
        subst h1
        go_wp2
        go_round
        case rel => exact ⟨k + 1, by omega, by go_num, v, rfl, hv, by rw [HT.out]⟩
        case measure => simp [intOf]; omega
      · have b1 : (q != -1) = true := by simpa [bne_iff_ne] using h1
        by_cases h2 : q < v ∨ v = -1
        · by_cases h3 : (q > x ∧ q > y) ∨ (q < x ∧ q < y)
          · have HT := Lib.hid (HS.out.trans (cstp_a h1 h2 h3))
            clear h1
            rcases h2 with h2 | h2
            · rcases h3 with ⟨h3, h4⟩ | ⟨h3, h4⟩
              all_goals
                go_wp2
                all_goals
                  go_round
                  case rel => exact ⟨k + 1, by omega, by go_num, q, rfl, qb, by rw [HT.out]⟩
                  case measure => simp [intOf]; omega
            · subst h2
              rcases h3 with ⟨h3, h4⟩ | ⟨h3, h4⟩
              all_goals
                go_wp2
                all_goals
                  go_round
                  case rel => exact ⟨k + 1, by omega, by go_num, q, rfl, qb, by rw [HT.out]⟩
                  case measure => simp [intOf]; omega
          · have HT := Lib.hid (HS.out.trans (cstp_b h1 h2 h3))
            clear h1
            have g1 : decide (x < q) = false ∨ decide (y < q) = false := by by_cases h : x < q <;> simp <;> omega
            have g2 : decide (q < x) = false ∨ decide (q < y) = false := by by_cases h : q < x <;> simp <;> omega
            clear h3
            rcases h2 with h2 | h2
            · rcases g1 with g1 | g1 <;> rcases g2 with g2 | g2
              all_goals
                simp only [decide_eq_false_iff_not] at g1 g2
                go_wp2
                all_goals
                  go_round
                  case rel => exact ⟨k + 1, by omega, by go_num, v, rfl, hv, by rw [HT.out]⟩
                  case measure => simp [intOf]; omega
            · subst h2
              rcases g1 with g1 | g1 <;> rcases g2 with g2 | g2
              all_goals
                simp only [decide_eq_false_iff_not] at g1 g2
                go_wp2
                all_goals
                  go_round
                  case rel => exact ⟨k + 1, by omega, by go_num, -1, rfl, hv, by rw [HT.out]⟩
                  case measure => simp [intOf]; omega
        · have HT := Lib.hid (HS.out.trans (cstp_c (fun h => h2 h.2)))
          have b2 : (v == -1) = false := by rw [beq_eq_false_iff_ne]; omega
          have b3 : ¬ q < v := by omega
          clear h1 h2
          go_wp2
          all_goals
            go_round
            case rel => exact ⟨k + 1, by omega, by go_num, v, rfl, hv, by rw [HT.out]⟩
            case measure => simp [intOf]; omega
    · obtain rfl : k = cs.length := by omega
      have e : v = nextCon s.data.toList cs := by rw [HR.out, HF.out]; simp
      have HE := Lib.hid e
      clear e
      go_wp2
      go_ret
      exact ⟨ret_int HE.out, HB.out⟩
end Go.Proofs.YtiebedcldbmlhaaGreatDoor
