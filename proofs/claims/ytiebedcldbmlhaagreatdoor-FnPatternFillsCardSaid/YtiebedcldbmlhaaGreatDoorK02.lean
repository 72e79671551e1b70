/-
  Joined: A decimal of the library's slow path in memory, and trim; Plain facts on digits and shifts to the left; prefixIsLessThan.
  Conditions: each law's own.
-/
import Derived.Test.YtiebedcldbmlhaaGreatDoorShelf
import Derived.Test.YtiebedcldbmlhaaGreatDoorK01
import Derived.WalkKit
import Derived.Lib.Hide
import Derived.Outline
import Derived.Deep.DeepFit
import Derived.WalkSpells
import Derived.WalkLawsBesides
import Derived.Deep.DeepCutAuto
import Derived.Deep.CutBlock
import Derived.RegionTactic
import Derived.BigQuiet
namespace Go.Proofs.YtiebedcldbmlhaaGreatDoor.Fl
open Go.RowKit
set_option linter.unusedVariables false

theorem ret_int {k : IntKind} {a b : Int} (h : a = b) : Ending.returned (.int k a) = .returned (.int k b) := by rw [h]
theorem ret_bool {a b : Bool} (h : a = b) : Ending.returned (.bool a) = .returned (.bool b) := by rw [h]
theorem obj_cell {w : World} {g i : Nat} {c : Array Value} {t : TypeId} {v : Value} (h : w.heap[g]? = some (.cells c t (0, 0))) (hi : c[i]? = some v) : w.cell? ⟨g, i, none⟩ = some v := by
  simp [World.cell?, h, hi]
theorem obj_free {w : World} {g i : Nat} {c : Array Value} {t : TypeId} (h : w.heap[g]? = some (.cells c t (0, 0))) : w.frozen? ⟨g, i, none⟩ = false := by
  simp [World.frozen?, h]
theorem obj_set {w : World} {g i : Nat} {c : Array Value} {t : TypeId} {fr : Nat × Nat} (v : Value) (h : w.heap[g]? = some (.cells c t fr)) : (w.setCell ⟨g, i, none⟩ v).heap[g]? = some (.cells (c.setIfInBounds i v) t fr) := by
  simp [World.setCell, Array.getElem?_modify, h]
theorem set_same {c : Array Value} {i : Nat} {v : Value} (h : i < c.size) : (c.setIfInBounds i v)[i]? = some v := by
  simp [h]
theorem set_other {c : Array Value} {i j : Nat} {v : Value} (h : i ≠ j) : (c.setIfInBounds i v)[j]? = c[j]? := by
  rw [Array.getElem?_setIfInBounds_ne h]

/-- Only one block has changed. -/
structure Upd (c : Nat) (w w' : World) : Prop where
  os : w'.os = w.os
  tape : w'.tape = w.tape
  output : w'.output = w.output
  size : w'.heap.size = w.heap.size
  block : ∀ k, k ≠ c → w'.heap[k]? = w.heap[k]?
theorem Upd.refl (c : Nat) (w : World) : Upd c w w := ⟨rfl, rfl, rfl, rfl, fun _ _ => rfl⟩
theorem Upd.trans {c : Nat} {a b d : World} (h : Upd c a b) (k : Upd c b d) : Upd c a d :=
  ⟨k.os.trans h.os, k.tape.trans h.tape, k.output.trans h.output, k.size.trans h.size, fun j hj => (k.block j hj).trans (h.block j hj)⟩
theorem Upd.set {c : Nat} {w w' : World} (h : Upd c w w') (i : Nat) (v : Value) : Upd c w (w'.setCell ⟨c, i, none⟩ v) :=
  h.trans ⟨rfl, rfl, rfl, by simp, fun k hk => Below.heap_setCell w' ⟨c, i, none⟩ v k hk⟩
theorem Upd.cell {c g i : Nat} {w w' : World} {v : Value} (h : Upd c w w') (hg : g ≠ c) (hc : w.cell? ⟨g, i, none⟩ = some v) : w'.cell? ⟨g, i, none⟩ = some v :=
  (World.cell?_of_block (a := ⟨g, i, none⟩) (h.block g hg)).trans hc

theorem Upd.drewN {c : Nat} {w w' : World} (h : Upd c w w') (n : Nat) : Upd c w (w'.drewN n) := ⟨h.os, h.tape, h.output, h.size, h.block⟩

/-- The cells of a decimal, whatever its digits. -/
structure Raw (cs : Array Value) : Prop where
  size : cs.size = 804
  byte : ∀ i, i < 800 → ∃ b : Nat, b < 256 ∧ cs[i]? = some (.int .u8 b)
  neg : ∃ b : Bool, cs[802]? = some (.bool b)
  tr : ∃ b : Bool, cs[803]? = some (.bool b)
/-- The cells hold the digits of a number. -/
def DigAt (cs : Array Value) (D nd : Nat) : Prop := ∀ i, i < nd → cs[i]? = some (.int .u8 ((48 + dgt D (nd - 1 - i) : Nat) : Int))
/-- A decimal in memory. -/
structure Dec (w : World) (c D nd : Nat) (dp : Int) (tr : Bool) (cs : Array Value) (T : TypeId) : Prop where
  obj : w.heap[c]? = some (.cells cs T (0, 0))
  raw : Raw cs
  dig : DigAt cs D nd
  cnd : cs[800]? = some (.int .i64 nd)
  cdp : cs[801]? = some (.int .i64 dp)
  ctr : cs[803]? = some (.bool tr)
  lead : Lead D nd
  le : nd ≤ 800
theorem Dec.drewN {w : World} {c D nd : Nat} {dp : Int} {tr : Bool} {cs : Array Value} {T : TypeId} (h : Dec w c D nd dp tr cs T) (n : Nat) : Dec (w.drewN n) c D nd dp tr cs T := ⟨h.obj, h.raw, h.dig, h.cnd, h.cdp, h.ctr, h.lead, h.le⟩
theorem Raw.set {cs : Array Value} (h : Raw cs) {i : Nat} {b : Nat} (hi : i < 800) (hb : b < 256) : Raw (cs.setIfInBounds i (.int .u8 b)) := by
  refine ⟨by simp [h.size], fun j hj => ?_, ?_, ?_⟩
  · by_cases e : i = j
    · subst e; exact ⟨b, hb, set_same (by rw [h.size]; omega)⟩
    · rw [set_other e]; exact h.byte j hj
  · rw [set_other (by omega)]; exact h.neg
  · rw [set_other (by omega)]; exact h.tr
theorem Raw.setInt {cs : Array Value} (h : Raw cs) {i : Nat} {v : Value} (hi : i = 800 ∨ i = 801) : Raw (cs.setIfInBounds i v) := by
  refine ⟨by simp [h.size], fun j hj => ?_, ?_, ?_⟩
  · rw [set_other (by omega)]; exact h.byte j hj
  · rw [set_other (by omega)]; exact h.neg
  · rw [set_other (by omega)]; exact h.tr
theorem Raw.setTr {cs : Array Value} (h : Raw cs) (b : Bool) : Raw (cs.setIfInBounds 803 (.bool b)) := by
  refine ⟨by simp [h.size], fun j hj => ?_, ?_, ?_⟩
  · rw [set_other (by omega)]; exact h.byte j hj
  · rw [set_other (by omega)]; exact h.neg
  · exact ⟨b, set_same (by rw [h.size]; omega)⟩
theorem DigAt.set {cs : Array Value} {D nd i : Nat} {v : Value} (h : DigAt cs D nd) (hi : nd ≤ i) : DigAt (cs.setIfInBounds i v) D nd := fun j hj => by
  rw [set_other (by omega)]; exact h j hj

theorem dig_cut {cs : Array Value} {D nd m : Nat} (h : DigAt cs D nd) (h2 : m ≤ nd) : DigAt cs (D / 10 ^ (nd - m)) m := fun i hi => by
  rw [dgt_div, show m - 1 - i + (nd - m) = nd - 1 - i by omega]
  exact h i (by omega)
/-- A decimal in memory, its parts in one. -/
def DecS (w : World) (c : Nat) (s : St) (T : TypeId) : Prop := ∃ cs, Dec w c s.D s.nd s.dp s.tr cs T

set_option maxHeartbeats 1000000 in
theorem trim_any (c D nd : Nat) (dp : Int) (tr : Bool) (cs : Array Value) (T : TypeId) (w : World) (h : Dec w c D nd dp tr cs T) :
    Calls Tryz.prog 152 #[.pointer (some ⟨c, 0, none⟩)] w fun e w' => e = .returned (.tuple #[]) ∧ Upd c w w' ∧ DecS w' c ⟨(norm nd D).1, (norm nd D).2, dp, tr⟩ T := by
  have H := Lib.hid h
  clear h
  go_enter Tryz.func152, Tryz.ntmps152
  go_wp2_with fail
  go_loopw [] (fun wx => Upd c w wx ∧ ∃ m cs', 1 ≤ m ∧ m ≤ nd ∧ norm m (D / 10 ^ (nd - m)) = norm nd D ∧ Dec wx c (D / 10 ^ (nd - m)) m dp tr cs' T) (fun wx => match wx.cell? ⟨c, 800, none⟩ with | some (.int _ n) => n.toNat | _ => 0)
  case atStart => exact ⟨Upd.refl _ _, nd, cs, H.out.lead.one, Nat.le_refl _, by simp, by simpa using H.out⟩
  case round =>
    obtain ⟨hu, m, cs', hm1, hm2, hnm, hd⟩ := hrel
    obtain ⟨k, rfl⟩ : ∃ k, m = k + 1 := ⟨m - 1, by omega⟩
    obtain ⟨E, hE⟩ : ∃ E, E = D / 10 ^ (nd - (k + 1)) := ⟨_, rfl⟩
    rw [← hE] at hd hnm
    have c8 := obj_cell (i := 800) hd.obj hd.cnd
    have f8 := obj_free (i := 800) hd.obj
    have c9 := obj_cell (i := 801) hd.obj hd.cdp
    have f9 := obj_free (i := 801) hd.obj
    have cd := obj_cell (i := k) hd.obj (hd.dig k (by omega))
    rw [show k + 1 - 1 - k = 0 by omega] at cd
    obtain ⟨x, hx⟩ : ∃ x, x = dgt E 0 := ⟨_, rfl⟩
    rw [← hx] at cd
    have hk8 : k < 800 := by have := hd.le; omega
    have HD := Lib.hid hd
    have HU := Lib.hid hu
    have HE := Lib.hid hE
    have HX := Lib.hid hx
    have HN := Lib.hid hnm
    have g1 : decide ((0 : Int) < ((k + 1 : Nat) : Int)) = true := decide_eq_true (by omega)
    clear hd hu hE hx H hnm
    by_cases h0 : x = 0
    · subst h0
      have hk : k ≠ 0 := by
        rintro rfl
        have h1 := lead_top HD.out.lead
        have h2 := HX.out
        simp at h1
        omega
      have hE0 : E % 10 = 0 := by rw [← dgt_zero]; exact HX.out.symm
      have HN2 := Lib.hid ((norm_zero (n := k) hE0).symm.trans HN.out)
      clear hE0
      go_wp2_with fail
      go_quiet (fail)
      go_wp2_with fail
      go_roundw
      case rel =>
        have e1 : D / 10 ^ (nd - k) = E / 10 ^ (k + 1 - k) := by rw [HE.out, Nat.div_div_eq_div_mul, ← Nat.pow_add, show nd - (k + 1) + (k + 1 - k) = nd - k by omega]
        refine ⟨(HU.out.drewN _).set _ _, k, cs'.setIfInBounds 800 (.int .i64 k), by omega, by omega, ?_, ?_⟩
        · rw [e1, show k + 1 - k = 1 by omega, Nat.pow_one]; exact HN2.out
        rw [e1]
        refine ⟨obj_set _ (HD.out.drewN _).obj, HD.out.raw.setInt (.inl rfl), (dig_cut HD.out.dig (by omega)).set (by omega), set_same (by rw [HD.out.raw.size]; omega), ?_, ?_, lead_cut HD.out.lead (by omega) (by omega), by omega⟩
        · rw [set_other (by omega)]; exact HD.out.cdp
        · rw [set_other (by omega)]; exact HD.out.ctr
      case measure =>
        have s1 : ((wr.drewN nq).setCell ⟨c, 800, none⟩ (.int .i64 k)).cell? ⟨c, 800, none⟩ = some (.int .i64 k) := World.cell?_setCell_same _ _ _ c8
        rw [s1, c8]
        simp
    · have h0' : ((48 + x : Nat) : Int) ≠ 48 := by omega
      have hb : (((48 + x : Nat) : Int) == 48) = false := by simp; omega
      have hE0 : E % 10 ≠ 0 := by rw [← dgt_zero, ← HX.out]; exact h0
      have HN2 := Lib.hid ((norm_stop (n := k) hE0).symm.trans HN.out)
      clear hE0
      go_wp2_with fail
      go_quiet (fail)
      go_wp2_with fail
      go_end0
      exact ⟨rfl, HU.out.drewN _, cs', by rw [← HN2.out]; exact HD.out.drewN _⟩
end Go.Proofs.YtiebedcldbmlhaaGreatDoor.Fl
namespace Go.Proofs.YtiebedcldbmlhaaGreatDoor.Fl
open Go.RowKit
set_option linter.unusedVariables false

theorem pl_end {D C nd m : Nat} (h : m ≤ nd) (he : D / 10 ^ (nd - m) = C) : ¬ (D * 10 ^ m < C * 10 ^ nd) := by
  have h1 := div_lo D (nd - m)
  rw [he] at h1
  have h2 := Nat.mul_le_mul_right (10 ^ m) h1
  rw [Nat.mul_assoc, ← Nat.pow_add, show nd - m + m = nd by omega] at h2
  omega
theorem pl_short {D C nd m : Nat} (h : nd < m) (he : D = C / 10 ^ (m - nd)) (h0 : C % 10 ≠ 0) : D * 10 ^ m < C * 10 ^ nd := by
  have h1 := div_lo C (m - nd)
  rw [← he] at h1
  have h2 : D * 10 ^ (m - nd) ≠ C := by
    intro e
    apply h0
    rw [← e, show m - nd = (m - nd - 1) + 1 by omega, Nat.pow_succ, ← Nat.mul_assoc]
    exact Nat.mul_mod_left _ _
  have h3 : D * 10 ^ (m - nd) < C := by omega
  have h4 := (Nat.mul_lt_mul_right (p10 nd)).2 h3
  rw [Nat.mul_assoc, ← Nat.pow_add, show m - nd + nd = m by omega] at h4
  exact h4
theorem pl_diff {D C nd m i : Nat} (h1 : i < nd) (h2 : i < m) (he : D / 10 ^ (nd - i) = C / 10 ^ (m - i)) (hne : dgt D (nd - 1 - i) ≠ dgt C (m - 1 - i)) :
    decide (D * 10 ^ m < C * 10 ^ nd) = decide (dgt D (nd - 1 - i) < dgt C (m - 1 - i)) := by
  obtain ⟨a, ha⟩ : ∃ a, nd = a + 1 + i := ⟨nd - 1 - i, by omega⟩
  obtain ⟨b, hb⟩ : ∃ b, m = b + 1 + i := ⟨m - 1 - i, by omega⟩
  subst ha hb
  rw [show a + 1 + i - 1 - i = a by omega, show b + 1 + i - 1 - i = b by omega] at hne ⊢
  rw [show a + 1 + i - i = a + 1 by omega, show b + 1 + i - i = b + 1 by omega] at he
  have e1 := div_step D a
  have e2 := div_step C b
  rw [← he] at e2
  have d1 := div_lo D a; have d2 := div_up D a; have d3 := div_lo C b; have d4 := div_up C b
  rw [e1] at d1 d2
  rw [e2] at d3 d4
  have key : ∀ (x y A B p q r : Nat), 0 < p → 0 < q → 0 < r → A < (x + 1) * p → y * q ≤ B → x + 1 ≤ y → A * (q * r) < B * (p * r) := by
    intro x y A B p q r hp hq hr h1 h2 h3
    have h4 : A * q < (x + 1) * p * q := (Nat.mul_lt_mul_right hq).2 h1
    have h5 : (x + 1) * p * q ≤ y * q * p := by
      rw [Nat.mul_right_comm (x + 1) p q]
      exact Nat.mul_le_mul_right _ (Nat.mul_le_mul_right _ h3)
    have h6 : y * q * p ≤ B * p := Nat.mul_le_mul_right _ h2
    have h7 : A * q < B * p := by omega
    rw [← Nat.mul_assoc, ← Nat.mul_assoc]
    exact (Nat.mul_lt_mul_right hr).2 h7
  have eb : 10 ^ (b + 1 + i) = 10 ^ b * 10 ^ (1 + i) := by rw [← Nat.pow_add]; congr 1; omega
  have ea : 10 ^ (a + 1 + i) = 10 ^ a * 10 ^ (1 + i) := by rw [← Nat.pow_add]; congr 1; omega
  rw [eb, ea]
  by_cases hlt : dgt D a < dgt C b
  · rw [decide_eq_true hlt]
    exact decide_eq_true (key _ _ D C _ _ _ (p10 a) (p10 b) (p10 _) d2 d3 (by omega))
  · rw [decide_eq_false hlt]
    refine decide_eq_false ?_
    have := key _ _ C D _ _ _ (p10 b) (p10 a) (p10 (1 + i)) d4 d1 (by omega)
    omega
/-- How many digits a shift to the left makes. -/
theorem left_len {D nd k dl m : Nat} (h : Lead D nd) (h1 : 1 ≤ dl) (h2 : 10 ^ (dl - 1) ≤ 2 ^ k) (h3 : 2 ^ k < 10 ^ dl) (h4 : m + dl = k + 1) :
    Lead (D * 2 ^ k) (if D * 10 ^ m < 5 ^ k * 10 ^ nd then nd + dl - 1 else nd + dl) := by
  have h25 : 2 ^ k * 5 ^ k = 10 ^ k := by rw [← Nat.mul_pow]
  have hone := h.one
  have e1 : D * 2 ^ k * 10 ^ m = D * 10 ^ m * 2 ^ k := Nat.mul_right_comm ..
  have e2 : 5 ^ k * 10 ^ nd * 2 ^ k = 10 ^ (nd + dl - 1) * 10 ^ m := by
    rw [Nat.mul_right_comm, Nat.mul_comm (5 ^ k), h25, ← Nat.pow_add, ← Nat.pow_add]
    congr 1; omega
  have lo : 10 ^ (nd + dl - 1 - 1) ≤ D * 2 ^ k := by
    rw [show nd + dl - 1 - 1 = (nd - 1) + (dl - 1) by omega, Nat.pow_add]
    exact Nat.mul_le_mul h.low h2
  have up : D * 2 ^ k < 10 ^ (nd + dl) := by
    rw [Nat.pow_add]
    exact Nat.mul_lt_mul'' h.up h3
  split
  · rename_i hlt
    refine ⟨by omega, lo, ?_⟩
    have h5 := (Nat.mul_lt_mul_right (show 0 < 2 ^ k from Nat.pow_pos (by decide))).2 hlt
    rw [← e1, e2] at h5
    exact Nat.lt_of_mul_lt_mul_right h5
  · rename_i hge
    refine ⟨by omega, ?_, up⟩
    have h5 := Nat.mul_le_mul_right (2 ^ k) (Nat.not_lt.1 hge)
    rw [← e1, e2] at h5
    exact Nat.le_of_mul_le_mul_right h5 (p10 m)

set_option maxHeartbeats 1000000 in
theorem prefix_any (c D nd C m : Nat) (s : ByteArray) (cap : Nat) (w : World) (hnd : nd ≤ 800) (hm : s.size = m) (hm2 : m ≤ 1000) (hD : D < 10 ^ nd) (hC : C < 10 ^ m) (h0 : C % 10 ≠ 0)
    (hd : ∀ i, i < nd → w.cell? ⟨c, i, none⟩ = some (.int .u8 ((48 + dgt D (nd - 1 - i) : Nat) : Int))) (hs : ∀ i (h : i < s.size), (s[i]'h).toNat = 48 + dgt C (m - 1 - i)) :
    Calls Tryz.prog 151 #[.slice (some ⟨c, 0, none⟩) nd cap, .string s] w fun e w' => e = .returned (.bool (decide (D * 10 ^ m < C * 10 ^ nd))) ∧ ∃ n, w' = w.drewN n := by
  have HD := Lib.hid hd
  have HS := Lib.hid hs
  have HM := Lib.hid hm
  have HC := Lib.hid hC
  have HDl := Lib.hid hD
  have H0 := Lib.hid h0
  obtain ⟨z, hz⟩ : ∃ z, z = decide (D * 10 ^ m < C * 10 ^ nd) := ⟨_, rfl⟩
  rw [← hz]
  have HZ := Lib.hid hz
  have hsz : s.size ≤ 1000 := by omega
  clear hd hs hm hC hD h0 hz
  go_enter Tryz.func151, Tryz.ntmps151
  go_wp2_with fail
  go_loopw [5] (fun x wx => ∃ i : Nat, x = .int .i64 i ∧ i ≤ nd ∧ i ≤ s.size ∧ D / 10 ^ (nd - i) = C / 10 ^ (m - i) ∧ ∃ n, wx = w.drewN n) (fun x wx => s.size - (intOf x).toNat)
  case atStart => exact ⟨0, rfl, Nat.zero_le _, Nat.zero_le _, by rw [Nat.sub_zero, Nat.sub_zero, Nat.div_eq_of_lt HDl.out, Nat.div_eq_of_lt HC.out], 0, rfl⟩
  case round =>
    obtain ⟨i, rfl, hi1, hi2, he, q, rfl⟩ := hrel
    have HE := Lib.hid he
    clear he
    by_cases him : i < s.size
    · by_cases hin : i < nd
      · have hc := HD.out i hin
        obtain ⟨x, hx⟩ : ∃ x, x = dgt D (nd - 1 - i) := ⟨_, rfl⟩
        rw [← hx] at hc
        have hy := HS.out i him
        obtain ⟨y, hyd⟩ : ∃ y, y = dgt C (m - 1 - i) := ⟨_, rfl⟩
        rw [← hyd] at hy
        have hx9 : x < 10 := by rw [hx]; exact dgt_lt _ _
        have hy9 : y < 10 := by rw [hyd]; exact dgt_lt _ _
        have HX := Lib.hid hx
        have HY := Lib.hid hyd
        clear hx hyd
        by_cases hxy : x = y
        · subst hxy
          go_wp2_with fail
          go_quiet (fail)
          go_wp2_with fail
          go_roundw
          case rel =>
            refine ⟨i + 1, by go_num, by omega, by omega, ?_, _, rfl⟩
            have e1 := div_step D (nd - 1 - i)
            have e2 := div_step C (m - 1 - i)
            rw [show nd - 1 - i + 1 = nd - i by omega] at e1
            rw [show m - 1 - i + 1 = m - i by have := HM.out; omega] at e2
            rw [show nd - (i + 1) = nd - 1 - i by omega, show m - (i + 1) = m - 1 - i by omega, e1, e2, HE.out, ← HX.out, ← HY.out]
          case measure => simp [intOf]; omega
        · have hne : ((48 + x : Nat) : Int) ≠ ((48 + y : Nat) : Int) := by omega
          have hb : (((48 + x : Nat) : Int) == ((48 + y : Nat) : Int)) = false := by simp; omega
          have hlt2 : decide (x < y) = z := by
            rw [HZ.out, pl_diff hin (by have := HM.out; omega) HE.out (by rw [← HX.out, ← HY.out]; exact hxy), ← HX.out, ← HY.out]
          have HLT := Lib.hid hlt2
          clear hlt2
          go_wp2_with fail
          go_quiet (fail)
          go_wp2_with fail
          go_quiet (fail)
          go_wp2_with fail
          go_ret
          refine ⟨?_, _, by rw [World.drewN_drewN, World.drewN_drewN]⟩
          simp [HLT.out]
      · obtain rfl : i = nd := by omega
        have HT := Lib.hid (pl_short (D := D) (C := C) (nd := i) (m := m) (by have := HM.out; omega) (by have h := HE.out; rw [Nat.sub_self, Nat.pow_zero, Nat.div_one] at h; exact h) H0.out)
        go_wp2_with fail
        go_ret
        exact ⟨ret_bool (by rw [HZ.out, decide_eq_true HT.out]), _, rfl⟩
    · obtain rfl : i = s.size := by omega
      have HT := Lib.hid (pl_end (D := D) (C := C) (nd := nd) (m := m) (by have := HM.out; omega) (by have h := HE.out; rw [← HM.out] at h ⊢; rw [Nat.sub_self, Nat.pow_zero, Nat.div_one] at h; exact h))
      go_wp2_with fail
      go_ret
      exact ⟨ret_bool (by rw [HZ.out, decide_eq_false HT.out]), _, rfl⟩
end Go.Proofs.YtiebedcldbmlhaaGreatDoor.Fl
