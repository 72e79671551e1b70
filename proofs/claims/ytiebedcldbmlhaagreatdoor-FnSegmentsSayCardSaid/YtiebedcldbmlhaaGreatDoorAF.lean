/-
  The law's function pattern, of any lists: a pattern of parts, a path with values in their places, and these values. Conditions: at most sixty parts of at most two thousand bytes each.
-/
import Derived.Test.YtiebedcldbmlhaaGreatDoorAE
import Derived.Deep.CutBlock
namespace Go.Proofs.YtiebedcldbmlhaaGreatDoor
open Go.RowKit
set_option linter.unusedVariables false

/-- Where a list of bytes lies. -/
def KindsAt (w : World) (ao : Option Addr) (ks : List Nat) : Prop := ks = [] ∨ ∃ b off, ao = some ⟨b, off, none⟩ ∧ ∀ i, i < ks.length → w.cell? ⟨b, off + i, none⟩ = some (.int .u8 ((ks.getD i 0 : Nat) : Int))
theorem KindsAt.below {w w' : World} {ao : Option Addr} {ks : List Nat} (h : KindsAt w ao ks) (hb : Below w.heap.size w w') : KindsAt w' ao ks := by
  rcases h with h | ⟨b, off, h1, h2⟩
  · exact .inl h
  · exact .inr ⟨b, off, h1, fun i hi => (hb.cell (p := ⟨b, off + i, none⟩) (cell_lt (h2 i hi))).trans (h2 i hi)⟩

def isVal (vs : List ByteArray) (ks : List Nat) (i : Nat) : Bool := decide (i < ks.length) && (decide (i < vs.length) && decide (ks.getD i 0 % 2 ≠ 0))
def itemAt (ps vs : List ByteArray) (ks : List Nat) (i : Nat) : Bs × Option Bs := ((ps.getD i ByteArray.empty).data.toList, if isVal vs ks i then some (vs.getD i ByteArray.empty).data.toList else none)
def ptsTo (ps vs : List ByteArray) (ks : List Nat) (k : Nat) : Pts := (List.range k).map (itemAt ps vs ks)
theorem ptsTo_step (ps vs : List ByteArray) (ks : List Nat) (k : Nat) : ptsTo ps vs ks (k + 1) = ptsTo ps vs ks k ++ [itemAt ps vs ks k] := by unfold ptsTo; rw [List.range_succ, List.map_append]; rfl
theorem pat_snoc (x : Bs × Option Bs) : ∀ l : Pts, patOf (l ++ [x]) = patOf l ++ patOf [x]
  | [] => rfl
  | (p, none) :: l => by show 47 :: (p ++ patOf (l ++ [x])) = _; rw [pat_snoc x l]; simp [patOf]
  | (p, some v) :: l => by show 47 :: 58 :: (p ++ patOf (l ++ [x])) = _; rw [pat_snoc x l]; simp [patOf]
theorem path_snoc (x : Bs × Option Bs) : ∀ l : Pts, pathOf (l ++ [x]) = pathOf l ++ pathOf [x]
  | [] => rfl
  | (p, none) :: l => by show 47 :: (p ++ pathOf (l ++ [x])) = _; rw [path_snoc x l]; simp [pathOf]
  | (p, some v) :: l => by show 47 :: (v ++ pathOf (l ++ [x])) = _; rw [path_snoc x l]; simp [pathOf]
theorem want_snoc (x : Bs × Option Bs) : ∀ l : Pts, wantOf (l ++ [x]) = wantOf l ++ wantOf [x]
  | [] => rfl
  | (p, none) :: l => by show wantOf (l ++ [x]) = _; rw [want_snoc x l]; rfl
  | (p, some v) :: l => by show v :: wantOf (l ++ [x]) = _; rw [want_snoc x l]; rfl

theorem pat_const (ps vs : List ByteArray) (ks : List Nat) (k : Nat) (h : isVal vs ks k = false) :
    patOf (ptsTo ps vs ks (k + 1)) = patOf (ptsTo ps vs ks k) ++ 47 :: (ps.getD k ByteArray.empty).data.toList ∧ pathOf (ptsTo ps vs ks (k + 1)) = pathOf (ptsTo ps vs ks k) ++ 47 :: (ps.getD k ByteArray.empty).data.toList ∧ wantOf (ptsTo ps vs ks (k + 1)) = wantOf (ptsTo ps vs ks k) := by
  have hi : itemAt ps vs ks k = ((ps.getD k ByteArray.empty).data.toList, none) := by unfold itemAt; rw [h]; rfl
  rw [ptsTo_step, pat_snoc, path_snoc, want_snoc, hi]
  refine ⟨by simp [patOf], by simp [pathOf], by simp [wantOf]⟩
theorem pat_param (ps vs : List ByteArray) (ks : List Nat) (k : Nat) (h : isVal vs ks k = true) :
    patOf (ptsTo ps vs ks (k + 1)) = patOf (ptsTo ps vs ks k) ++ 47 :: 58 :: (ps.getD k ByteArray.empty).data.toList ∧ pathOf (ptsTo ps vs ks (k + 1)) = pathOf (ptsTo ps vs ks k) ++ 47 :: (vs.getD k ByteArray.empty).data.toList ∧ wantOf (ptsTo ps vs ks (k + 1)) = wantOf (ptsTo ps vs ks k) ++ [(vs.getD k ByteArray.empty).data.toList] := by
  have hi : itemAt ps vs ks k = ((ps.getD k ByteArray.empty).data.toList, some (vs.getD k ByteArray.empty).data.toList) := by unfold itemAt; rw [h]; rfl
  rw [ptsTo_step, pat_snoc, path_snoc, want_snoc, hi]
  refine ⟨by simp [patOf], by simp [pathOf], by simp [wantOf]⟩
theorem getD_size {ps : List ByteArray} (h : ∀ s ∈ ps, s.size ≤ 2000) (k : Nat) : (ps.getD k ByteArray.empty).size ≤ 2000 := by
  rw [List.getD_eq_getElem?_getD]
  cases hk : ps[k]? with
  | none => show ByteArray.empty.size ≤ 2000; decide
  | some s => exact h s (List.mem_of_getElem? hk)
theorem pat_len {ps vs : List ByteArray} {ks : List Nat} (hp : ∀ s ∈ ps, s.size ≤ 2000) (hv : ∀ s ∈ vs, s.size ≤ 2000) : ∀ k, (patOf (ptsTo ps vs ks k)).length ≤ k * 2002 ∧ (pathOf (ptsTo ps vs ks k)).length ≤ k * 2002 ∧ (wantOf (ptsTo ps vs ks k)).length ≤ k
  | 0 => ⟨by simp [ptsTo, patOf], by simp [ptsTo, pathOf], by simp [ptsTo, wantOf]⟩
  | k + 1 => by
    have ih := pat_len (ks := ks) hp hv k
    have h1 := getD_size hp k
    have h2 := getD_size hv k
    rw [← size_data] at h1 h2
    cases h : isVal vs ks k with
    | false =>
      obtain ⟨a, b, c⟩ := pat_const ps vs ks k h
      rw [a, b, c]
      simp only [List.length_append, List.length_cons]
      omega
    | true =>
      obtain ⟨a, b, c⟩ := pat_param ps vs ks k h
      rw [a, b, c]
      simp only [List.length_append, List.length_cons, List.length_nil]
      omega
theorem bs_three (l : Bs) (c : UInt8) (p : ByteArray) : bs l ++ ⟨#[c]⟩ ++ p = bs (l ++ c :: p.data.toList) := by rw [bytes_ext]; simp [bs_data]
theorem bs_four (l : Bs) (c d : UInt8) (p : ByteArray) : bs l ++ ⟨#[c]⟩ ++ (⟨#[d]⟩ ++ p) = bs (l ++ c :: d :: p.data.toList) := by rw [bytes_ext]; simp [bs_data]

theorem str_one (u : ByteArray) : ∀ y ∈ [Value.string u], y.oneCell' = true := by
  intro y hy
  obtain rfl : y = .string u := by simpa using hy
  rfl
set_option maxHeartbeats 2000000 in
set_option maxRecDepth 100000 in
theorem pattern_any (a0 a1 a2 : Option Addr) (c0 c1 c2 : Nat) (ps vs : List ByteArray) (ks : List Nat) (w : World) (hl0 : ps.length ≤ 60) (hl1 : vs.length ≤ 60) (hl2 : ks.length ≤ 2147483647) (h0 : TextsAt w a0 ps) (h1 : TextsAt w a1 vs) (h2 : KindsAt w a2 ks)
    (hs0 : ∀ s ∈ ps, s.size ≤ 2000) (hs1 : ∀ s ∈ vs, s.size ≤ 2000) (hk2 : ∀ i, ks.getD i 0 < 256) :
    Calls Tryz.prog 17 #[.slice a0 ps.length c0, .slice a1 vs.length c1, .slice a2 ks.length c2] w fun e w' => ∃ v, e = .returned (.tuple #[.string (bs (patOf (ptsTo ps vs ks ps.length))), .string (bs (pathOf (ptsTo ps vs ks ps.length))), v]) ∧
      w'.ownsRow w.heap.size 9 1 v (wantOf (ptsTo ps vs ks ps.length)).length (svals (wantOf (ptsTo ps vs ks ps.length))) ∧ Below w.heap.size w w' := by
  obtain ⟨i9, hi9, hz90, hz91, hz92⟩ := info_parts info9
  obtain ⟨n, hn⟩ : ∃ n, n = ps.length := ⟨_, rfl⟩
  obtain ⟨m, hm⟩ : ∃ m, m = vs.length := ⟨_, rfl⟩
  obtain ⟨q, hq⟩ : ∃ q, q = ks.length := ⟨_, rfl⟩
  rw [← hn] at hl0 ⊢
  rw [← hm] at hl1 ⊢
  rw [← hq] at hl2 ⊢
  have HN := Lib.hid hn
  have HM := Lib.hid hm
  have HQ := Lib.hid hq
  have H0 := Lib.hid h0
  have H1 := Lib.hid h1
  have H2 := Lib.hid h2
  have HS0 := Lib.hid hs0
  have HS1 := Lib.hid hs1
  have HK2 := Lib.hid hk2
  clear hn hm hq h0 h1 h2 hs0 hs1 hk2
  go_enter Tryz.func17, Tryz.ntmps17
  go_wp2_with fail
  go_loopw [9, 10, 11, 16] (fun a b c i wr => ∃ k : Nat, k ≤ n ∧ i = .int .i64 k ∧ a = .string (bs (patOf (ptsTo ps vs ks k))) ∧ b = .string (bs (pathOf (ptsTo ps vs ks k))) ∧ wr.ownsRow w.heap.size 9 1 c (wantOf (ptsTo ps vs ks k)).length (svals (wantOf (ptsTo ps vs ks k))) ∧ Below w.heap.size w wr) (fun _ _ _ i _ => n - (intOf i).toNat)
  case atStart => exact ⟨0, Nat.zero_le _, rfl, rfl, rfl, World.ownsRow_nil _ _ _ _, Below.refl _ _⟩
  case round =>
    obtain ⟨k, hk, rfl, rfl, rfl, hown, hb⟩ := hrel
    have HO := Lib.hid hown
    have HB := Lib.hid hb
    clear hown hb
    by_cases hlt : k < n
    · rcases H0.out with h0 | ⟨b, off, rfl, hcells⟩
      · have h1 := HN.out
        rw [h0] at h1; simp at h1; omega
      have hck := hcells k (by have := HN.out; omega)
      have hck2 := (HB.out.cell (p := ⟨b, off + k, none⟩) (cell_lt hck)).trans hck
      have hps := getD_size HS0.out k
      have hlen := pat_len (ks := ks) HS0.out HS1.out k
      obtain ⟨p, hp⟩ : ∃ p, p = ps.getD k ByteArray.empty := ⟨_, rfl⟩
      rw [← hp] at hck2 hps
      have HP := Lib.hid hp
      have hz1 : (bs (patOf (ptsTo ps vs ks k))).size ≤ 200000 := by rw [bs_size]; omega
      have hz2 : (bs (pathOf (ptsTo ps vs ks k))).size ≤ 200000 := by rw [bs_size]; omega
      have HZ3 := Lib.hid hlen.2.2
      have hz3 : (patOf (ptsTo ps vs ks k)).length ≤ 200000 := by omega
      have hz4 : (pathOf (ptsTo ps vs ks k)).length ≤ 200000 := by omega
      obtain ⟨Cb, hCb⟩ : ∃ Cb, Cb = isVal vs ks k := ⟨_, rfl⟩
      have HCB := Lib.hid hCb
      clear hck hcells hp hlen hCb
      go_upto_region 8 with fail
      go_cut [42] from 25 to 42 (fun v wx => v = .bool (!Cb) ∧ wr = wx)
      case first =>
        by_cases hA : k < q
        · have dA : decide (q ≤ k) = false := decide_eq_false (by omega)
          by_cases hB : k < m
          · have dB : decide (m ≤ k) = false := decide_eq_false (by omega)
            rcases H2.out with h0 | ⟨b2, off2, rfl, hcells⟩
            · have h1 := HQ.out
              rw [h0] at h1; simp at h1; omega
            have hck := hcells k (by have := HQ.out; omega)
            have hck3 := (HB.out.cell (p := ⟨b2, off2 + k, none⟩) (cell_lt hck)).trans hck
            obtain ⟨x, hx⟩ : ∃ x, x = ks.getD k 0 := ⟨_, rfl⟩
            have hxl := HK2.out k
            rw [← hx] at hck3 hxl
            have HX := Lib.hid hx
            clear hck hcells hx
            have HV := Lib.hid (show isVal vs ks k = decide (x % 2 ≠ 0) by
              unfold isVal; rw [← HX.out, decide_eq_true (by have := HQ.out; omega), decide_eq_true (by have := HM.out; omega)]; rfl)
            by_cases hC : x % 2 = 0
            · have hq1 : ((x : Int) % 2 == 0) = true := by rw [beq_iff_eq]; omega
              go_wp2
              go_meet
              case rel => exact ⟨by rw [HCB.out, HV.out, decide_eq_false (by omega)]; rfl, rfl⟩
            · have hq1 : ((x : Int) % 2 == 0) = false := by rw [beq_eq_false_iff_ne]; omega
              go_wp2
              go_meet
              case rel => exact ⟨by rw [HCB.out, HV.out, decide_eq_true (by omega)]; rfl, rfl⟩
          · have dB : decide (m ≤ k) = true := decide_eq_true (by omega)
            have HV := Lib.hid (show isVal vs ks k = false by unfold isVal; rw [decide_eq_false (p := k < vs.length) (by have := HM.out; omega)]; simp)
            go_wp2
            go_meet
            case rel => exact ⟨by rw [HCB.out, HV.out]; rfl, rfl⟩
        · have dA : decide (q ≤ k) = true := decide_eq_true (by omega)
          have HV := Lib.hid (show isVal vs ks k = false by unfold isVal; rw [decide_eq_false (p := k < ks.length) (by have := HQ.out; omega)]; simp)
          go_wp2
          go_meet
          case rel => exact ⟨by rw [HCB.out, HV.out]; rfl, rfl⟩
      case rest =>
      obtain ⟨rfl, rfl⟩ := hcut
      cases hcb : Cb with
      | false =>
        have HPC := Lib.hid (pat_const ps vs ks k (HCB.out.symm.trans hcb))
        clear hcb
        go_wp2_with fail
        go_roundw
        case rel =>
          refine ⟨k + 1, by omega, by go_num, ?_, ?_, by rw [HPC.out.2.2]; exact HO.out, HB.out⟩
          · rw [HPC.out.1, bs_three, HP.out]
          · rw [HPC.out.2.1, bs_three, HP.out]
        case measure => simp [intOf]; omega
      | true =>
        have hvt := HCB.out.symm.trans hcb
        have HPC := Lib.hid (pat_param ps vs ks k hvt)
        have hvl : k < m := by
          have h3 := hvt
          unfold isVal at h3
          rw [Bool.and_eq_true, Bool.and_eq_true, decide_eq_true_iff, decide_eq_true_iff] at h3
          have := HM.out; omega
        rcases H1.out with h0 | ⟨b3, off3, rfl, hcells⟩
        · have h1 := HM.out
          rw [h0] at h1; simp at h1; omega
        have hck := hcells k (by have := HM.out; omega)
        have hck4 := (HB.out.cell (p := ⟨b3, off3 + k, none⟩) (cell_lt hck)).trans hck
        have hvs := getD_size HS1.out k
        obtain ⟨u, hu⟩ : ∃ u, u = vs.getD k ByteArray.empty := ⟨_, rfl⟩
        rw [← hu] at hck4 hvs
        have HU := Lib.hid hu
        have hbz := HB.out.size
        have hwl := HZ3.out
        clear hcb hvt hck hcells hu
        go_wp2_with (at_builtin; refine wpList_append_own _ rfl (.tmp 59) (.tmp 64) 22 rfl w.heap.size 9 i9 (.string ⟨#[]⟩) 1 16 Tryz.underlying22 hi9 hz90 hz91 hz92 rfl (by decide) _ _ _ (by rfl) (HO.out.alloc _) ⟨wr.heap.size, 0, none⟩ 1 1 [.string u] (by rfl) rfl (by intro j y hy; obtain ⟨rfl, rfl⟩ := one_at hy; rw [add_cell, Nat.zero_add]; simp [cell_alloc, objCell]) (str_one u) (by simp [maxLen]; omega) (by omega) (by simp; omega) ?_; intro v' w2 hown' hgrow hnil')
        have hlt' := fun k' h => (HO.out.lt (k := k') h).1
        have hbw := Lib.hid ((HB.out.alloc (by have := HB.out.size; omega) (.cells #[.string u] 9)).grown hgrow (by have := HB.out.size; simp; omega) hlt')
        have HO2 := Lib.hid hown'
        clear hown' hgrow hnil' hlt'
        go_wp2_with fail
        go_roundw
        case rel =>
          refine ⟨k + 1, by omega, by go_num, ?_, ?_, ?_, hbw.out⟩
          · rw [HPC.out.1, bs_four, HP.out]
          · rw [HPC.out.2.1, bs_three, HU.out]
          · rw [HPC.out.2.2, svals_append, List.length_append]
            have h5 := HO2.out
            have h6 : svals [(vs.getD k ByteArray.empty).data.toList] = [.string u] := by rw [← HU.out]; simp [svals, bs_of]
            rw [h6]
            exact h5
        case measure => simp [intOf]; omega
    · obtain rfl : k = n := by omega
      go_wp2_with fail
      go_ret3
      exact ⟨_, rfl, HO.out, HB.out⟩
end Go.Proofs.YtiebedcldbmlhaaGreatDoor
