/-
  A segment in memory; findParamLen and its two helpers, of any text and segment. Conditions: of a size that addresses allow.
-/
import Derived.Test.YtiebedcldbmlhaaGreatDoorH
import Derived.Test.YtiebedcldbmlhaaGreatDoorJ
namespace Go.Proofs.YtiebedcldbmlhaaGreatDoor
open Go.RowKit
set_option linter.unusedVariables false

def segCells (x : Seg) (cv : Value) : List Value :=
  [.string (bs x.const), .bool x.isParam, .string (bs x.name), .string (bs x.cmp), .int .i64 x.partCount, .bool x.greedy, .bool x.optional, .bool x.last, .bool x.optSlash, cv, .int .i64 x.length]
/-- The block of a segment. -/
def SegObj (w : World) (g : Nat) (x : Seg) (cv : Value) : Prop := w.heap[g]? = some (.cells (segCells x cv).toArray 99 (0, 0))
theorem SegObj.cell {w : World} {g : Nat} {x : Seg} {cv : Value} (h : SegObj w g x cv) (i : Nat) (v : Value) (hv : (segCells x cv)[i]? = some v) : w.cell? ⟨g, i, none⟩ = some v := by
  have h' : w.heap[g]? = some (.cells (segCells x cv).toArray 99 (0, 0)) := h
  simp only [World.cell?, h']
  simpa using hv
theorem SegObj.frozen {w : World} {g : Nat} {x : Seg} {cv : Value} (h : SegObj w g x cv) (i : Nat) : w.frozen? ⟨g, i, none⟩ = false := by
  have h' : w.heap[g]? = some (.cells (segCells x cv).toArray 99 (0, 0)) := h
  simp [World.frozen?, h']
theorem SegObj.lt {w : World} {g : Nat} {x : Seg} {cv : Value} (h : SegObj w g x cv) : g < w.heap.size := (Array.getElem?_eq_some_iff.1 h).1
theorem SegObj.below {w w' : World} {g : Nat} {x : Seg} {cv : Value} (h : SegObj w g x cv) {B : Nat} (hb : Below B w w') (hg : g < B) : SegObj w' g x cv := (hb.block g hg).trans h

theorem pl_last {s : Bs} {x : Seg} (h1 : x.last = true) (h2 : x.greedy = true) : paramLen s x = s.length := by unfold paramLen; simp [h1, h2]
theorem pl_last_none {s : Bs} {x : Seg} (h1 : x.last = true) (h2 : x.greedy = false) (h : fb s 47 = none) : paramLen s x = s.length := by unfold paramLen; simp [h1, h2, h]
theorem pl_last_some {s : Bs} {x : Seg} {k : Nat} (h1 : x.last = true) (h2 : x.greedy = false) (h : fb s 47 = some k) : paramLen s x = k := by unfold paramLen; simp [h1, h2, h]

set_option maxHeartbeats 1000000 in
theorem lastSeg_any (s : ByteArray) (g : Nat) (x : Seg) (cv : Value) (w : World) (hs : s.size ≤ 140737488351232) (h : SegObj w g x cv) (hl : x.last = true) :
    Calls Tryz.prog 83 #[.string s, .pointer (some ⟨g, 0, none⟩)] w fun e w' => e = .returned (.int .i64 (paramLen s.data.toList x)) ∧ w = w' := by
  have c5 := h.cell 5 _ rfl
  go_enter Tryz.func83, Tryz.ntmps83
  cases hg : x.greedy with
  | true =>
    rw [hg] at c5
    have HP := Lib.hid (pl_last (s := s.data.toList) hl hg)
    clear hg
    go_wp2
    go_ret
    exact ⟨ret_int (by rw [HP.out, size_data]), rfl⟩
  | false =>
    rw [hg] at c5
    have HG := Lib.hid hg
    clear hg
    go_wp2_with fail
    refine (index_any s 47 _).mono ?_
    rintro e w' ⟨rfl, rfl⟩
    cases hf : fb s.data.toList 47 with
    | none =>
      rw [oi_none]
      have HP := Lib.hid (pl_last_none hl HG.out hf)
      clear hf
      go_wp2
      go_ret
      exact ⟨ret_int (by rw [HP.out, size_data]), rfl⟩
    | some k =>
      rw [oi_some]
      have HP := Lib.hid (pl_last_some hl HG.out hf)
      have hbn : ((k : Int) != -1) = true := by simp [bne_iff_ne]
      clear hf
      go_wp2
      go_ret
      exact ⟨ret_int (by rw [HP.out]), rfl⟩

theorem greedyGo_stop {sub s : Bs} {p c : Nat} (h : p = 0 ∨ c = 0) : greedyGo sub p c s = s := by
  cases p with
  | zero => rfl
  | succ p => cases c with
    | zero => rfl
    | succ c => omega
theorem greedyGo_none {sub s : Bs} {p c : Nat} (h : lastIdx s sub = none) : greedyGo sub (p + 1) (c + 1) s = s := by unfold greedyGo; rw [h]
theorem greedyGo_some {sub s : Bs} {p c k : Nat} (h : lastIdx s sub = some k) : greedyGo sub (p + 1) (c + 1) s = greedyGo sub p c (s.take k) := by
  conv => lhs; unfold greedyGo
  rw [h]

theorem lastGo_lt {s sub : Bs} : ∀ {n k : Nat}, lastGo s sub n = some k → k < n
  | 0, k, h => by cases h
  | n + 1, k, h => by
    unfold lastGo at h
    split at h
    · cases h; omega
    · have := lastGo_lt h; omega
theorem lastIdx_le {s sub : Bs} {k : Nat} (h : lastIdx s sub = some k) : k ≤ s.length := by
  unfold lastIdx at h
  split at h
  · cases h
  · have := lastGo_lt h; omega

set_option maxHeartbeats 1000000 in
theorem greedyLen_any (s : ByteArray) (n : Nat) (g : Nat) (x : Seg) (cv : Value) (w : World) (hs : s.size ≤ 140737488351232) (hn : n ≤ 140737488351232) (h : SegObj w g x cv) (hp0 : 0 ≤ x.partCount) (hp : x.partCount ≤ 140737488351232) (hc : x.cmp.length ≤ 140737488351232) :
    Calls Tryz.prog 84 #[.string s, .int .i64 n, .pointer (some ⟨g, 0, none⟩)] w fun e w' => e = .returned (.int .i64 (greedyGo x.cmp x.partCount.toNat n s.data.toList).length) ∧ w = w' := by
  have c4 := h.cell 4 _ rfl
  have c3 := h.cell 3 _ rfl
  obtain ⟨p, hpp⟩ : ∃ p : Nat, x.partCount = p := ⟨x.partCount.toNat, by omega⟩
  rw [hpp] at c4 hp
  have e1 : x.partCount.toNat = p := by omega
  rw [e1]
  clear hpp e1 hp0
  obtain ⟨t, ht⟩ : ∃ t, t = bs x.cmp := ⟨_, rfl⟩
  have htd : x.cmp = t.data.toList := by rw [ht, bs_data]
  have hts : t.size ≤ 140737488351232 := by rw [ht]; exact hc
  rw [← ht] at c3
  rw [htd]
  clear ht htd hc
  have HH := Lib.hid h
  clear h
  go_enter Tryz.func84, Tryz.ntmps84
  go_wp2
  go_loop [0, 1, 7] (fun a b c => ∃ (r : ByteArray) (m q : Nat), a = .string r ∧ b = .int .i64 m ∧ c = .int .i64 q ∧ r.size ≤ s.size ∧ m ≤ n ∧ q ≤ p ∧ greedyGo t.data.toList q m r.data.toList = greedyGo t.data.toList p n s.data.toList) (fun _ _ c => (intOf c).toNat)
  case atStart => exact ⟨s, n, p, rfl, rfl, rfl, Nat.le_refl _, Nat.le_refl _, Nat.le_refl _, rfl⟩
  case round =>
    obtain ⟨r, m, q, rfl, rfl, rfl, hr, hm, hq, hg⟩ := hrel
    have HG := Lib.hid hg
    clear hg
    by_cases h0 : q = 0 ∨ m = 0
    · have HS := Lib.hid (greedyGo_stop (sub := t.data.toList) (s := r.data.toList) h0)
      by_cases hq0 : q = 0
      · subst hq0
        go_wp2
        go_ret
        exact ⟨ret_int (by rw [← HG.out, HS.out, size_data]), rfl⟩
      · obtain rfl : m = 0 := by omega
        clear h0
        have hq1 : 0 < q := by omega
        go_wp2
        go_ret
        exact ⟨ret_int (by rw [← HG.out, HS.out, size_data]), rfl⟩
    · obtain ⟨q, rfl⟩ : ∃ j, q = j + 1 := ⟨q - 1, by omega⟩
      obtain ⟨m, rfl⟩ : ∃ j, m = j + 1 := ⟨m - 1, by omega⟩
      clear h0
      go_wp2_with fail
      refine (lastIdx_any r t _ (by omega) hts).mono ?_
      rintro e w' ⟨rfl, rfl⟩
      cases hN : lastIdx r.data.toList t.data.toList with
      | none =>
        rw [oi_none]
        have HS := Lib.hid (greedyGo_none (p := q) (c := m) hN)
        clear hN
        go_wp2
        go_ret
        exact ⟨ret_int (by rw [← HG.out, HS.out, size_data]), rfl⟩
      | some k =>
        rw [oi_some]
        have hk := lastIdx_le hN
        rw [size_data] at hk
        have HS := Lib.hid (greedyGo_some (p := q) (c := m) hN)
        have hbn : ((k : Int) != -1) = true := by simp [bne_iff_ne]
        clear hN
        go_wp2
        go_round
        case rel => exact ⟨r.extract 0 k, m, q, rfl, by go_num, by go_num, by simp; omega, by omega, by omega, by rw [← HG.out, HS.out, extract_range]; simp⟩
        case measure => simp [intOf]
end Go.Proofs.YtiebedcldbmlhaaGreatDoor
