/-
  The function findNextNonEscapedCharsetPosition answers the first place of a sign that is not escaped. Conditions: of a size that addresses allow.
-/
import Derived.Test.YtiebedcldbmlhaaGreatDoorB
namespace Go.Proofs.YtiebedcldbmlhaaGreatDoor
open Go.RowKit
set_option linter.unusedVariables false

theorem byte_at (s : ByteArray) (i : Nat) (h : i < s.size) : s.data.toList[i]? = some (s[i]'h) := by
  rw [List.getElem?_eq_getElem (by simpa using h)]; rfl
theorem u8_yes {c : UInt8} {m : Int} (h : ((c.toNat : Int) == m) = true) (n : UInt8) (hn : (n.toNat : Int) = m) : c = n := by
  rw [beq_iff_eq] at h
  exact UInt8.toNat_inj.1 (by omega)
theorem u8_no {c : UInt8} {m : Int} (h : ((c.toNat : Int) == m) = false) (n : UInt8) (hn : (n.toNat : Int) = m) : c ≠ n := by
  rw [beq_eq_false_iff_ne] at h
  rintro rfl
  exact h hn
theorem u8_beq (c n : UInt8) (m : Int) (hn : (n.toNat : Int) = m) : ((c.toNat : Int) == m) = (c == n) := by
  cases h : ((c.toNat : Int) == m) with
  | true => rw [u8_yes h n hn]; simp
  | false => simpa using (u8_no h n hn)
theorem extract_from (s : ByteArray) (i : Nat) : (s.extract i s.size).data.toList = s.data.toList.drop i := by
  simp [ByteArray.data_extract]
  rw [List.take_of_length_le (by simp)]
theorem size_data (s : ByteArray) : s.data.toList.length = s.size := by simp

theorem nneGo_stop {l cs : Bs} {k p : Nat} (h : ¬ (0 < p ∧ l[p - 1]? = some 92)) : nneGo l cs k p = some p := by
  cases k with
  | zero => rfl
  | succ k => unfold nneGo; rw [if_neg h]
theorem nneGo_end {l cs : Bs} {k p : Nat} (h0 : 0 < p) (h : l[p - 1]? = some 92) (he : l.length = p + 1) : nneGo l cs (k + 1) p = none := by
  unfold nneGo; rw [if_pos ⟨h0, h⟩, if_pos he]
theorem nneGo_none {l cs : Bs} {k p : Nat} (h0 : 0 < p) (h : l[p - 1]? = some 92) (he : l.length ≠ p + 1) (hn : nextCS (l.drop (p + 1)) cs = none) : nneGo l cs (k + 1) p = none := by
  unfold nneGo; rw [if_pos ⟨h0, h⟩, if_neg he, hn]
theorem nneGo_some {l cs : Bs} {k p q : Nat} (h0 : 0 < p) (h : l[p - 1]? = some 92) (he : l.length ≠ p + 1) (hn : nextCS (l.drop (p + 1)) cs = some q) : nneGo l cs (k + 1) p = nneGo l cs k (q + p + 1) := by
  conv => lhs; unfold nneGo
  rw [if_pos ⟨h0, h⟩, if_neg he, hn]

set_option maxHeartbeats 1000000 in
theorem nne_any (s : ByteArray) (b off cap : Nat) (cs : Bs) (w : World) (hs : s.size ≤ 140737488351232) (hl : cs.length ≤ 1000) (hc : ByteCells w b off cs) :
    Calls Tryz.prog 64 #[.string s, .slice (some ⟨b, off, none⟩) cs.length cap] w fun e w' => e = .returned (.int .i64 (oi (nne s.data.toList cs))) ∧ w = w' := by
  have HC := Lib.hid hc
  clear hc
  go_enter Tryz.func64, Tryz.ntmps64
  go_wp2_with fail
  refine (next_any s b off cap cs w hs hl HC.out).mono ?_
  rintro e w' ⟨rfl, rfl⟩
  go_wp2_with fail
  go_loop [5] (fun p => ∃ q : Int, p = .int .i64 q ∧ ((q = -1 ∧ nne s.data.toList cs = none) ∨ ∃ n k : Nat, q = n ∧ n < s.size ∧ s.size ≤ n + k ∧ nneGo s.data.toList cs k n = nne s.data.toList cs)) (fun p => (s.size - intOf p).toNat)
  case atStart =>
    refine ⟨_, rfl, ?_⟩
    cases h : nextCS s.data.toList cs with
    | none => exact .inl ⟨rfl, by unfold nne; rw [h]⟩
    | some n =>
      have hn := findIdx_lt h
      exact .inr ⟨n, s.size, rfl, by simpa using hn, by omega, by unfold nne; rw [h]; simp⟩
  case round =>
    obtain ⟨q, rfl, hq⟩ := hrel
    rcases hq with ⟨rfl, hN⟩ | ⟨n, k, rfl, hn, hk, hg⟩
    · have HN := Lib.hid hN
      clear hN
      go_wp2
      go_ret
      exact ⟨ret_int (by rw [HN.out]; rfl), rfl⟩
    · have HG := Lib.hid hg
      clear hg
      by_cases h0 : 0 < n
      · have hi : n - 1 < s.size := by omega
        have hb := byte_at s (n - 1) hi
        have HB := Lib.hid hb
        clear hb
        have hk1 : 1 ≤ k := by omega
        obtain ⟨k, rfl⟩ : ∃ j, k = j + 1 := ⟨k - 1, by omega⟩
        go_wp2_with fail
        · have h92 : (((s[n - 1]'hi).toNat : Int) == 92) = true := by assumption
          have he : ((s.size : Int) == (n : Int) + 1) = true := by assumption
          go_ret
          refine ⟨ret_int ?_, rfl⟩
          rw [← HG.out, nneGo_end h0 (by rw [HB.out, u8_yes h92 92 rfl]) (by rw [size_data]; simp at he; omega)]
          rfl
        · have h92 : (((s[n - 1]'hi).toNat : Int) == 92) = true := by assumption
          have he : ((s.size : Int) == (n : Int) + 1) = false := by assumption
          have h1 : s.data.toList[n - 1]? = some 92 := by rw [HB.out, u8_yes h92 92 rfl]
          have h2 : s.data.toList.length ≠ n + 1 := by rw [size_data]; simp at he; omega
          have H1 := Lib.hid h1
          have H2 := Lib.hid h2
          clear h1 h2 h92 he
          refine (next_any _ b off cap cs w (by simp; omega) hl HC.out).mono ?_
          rintro e w' ⟨rfl, rfl⟩
          have hex := Lib.hid (extract_from s (n + 1))
          rw [hex.out]
          cases hN : nextCS (s.data.toList.drop (n + 1)) cs with
          | none =>
            rw [oi_none]
            have HN := Lib.hid hN
            clear hN
            go_wp2
            go_ret
            exact ⟨ret_int (by rw [← HG.out, nneGo_none h0 H1.out H2.out HN.out]; rfl), rfl⟩
          | some q =>
            have hq := findIdx_lt hN
            have hq2 : q + n + 1 < s.size := by simp at hq; omega
            rw [oi_some]
            have HN := Lib.hid hN
            clear hN hq
            go_wp2
            go_round
            case rel => exact ⟨_, rfl, .inr ⟨q + n + 1, k, by omega, hq2, by omega, by rw [← HG.out, nneGo_some h0 H1.out H2.out HN.out]⟩⟩
            case measure => simp [intOf]; omega
        · have h92 : (((s[n - 1]'hi).toNat : Int) == 92) = false := by assumption
          go_ret
          refine ⟨ret_int ?_, rfl⟩
          rw [← HG.out, nneGo_stop (by rw [HB.out]; exact fun h => u8_no h92 92 rfl (Option.some.inj h.2))]
          rfl
      · obtain rfl : n = 0 := by omega
        go_wp2
        go_ret
        exact ⟨ret_int (by rw [← HG.out]; cases k <;> simp [nneGo, oi]), rfl⟩
end Go.Proofs.YtiebedcldbmlhaaGreatDoor
