/-
  A decimal of the library's slow path in memory, and trim. Conditions: at least one digit, the first one not zero, at most 800.
-/
import Derived.Test.YtiebedcldbmlhaaDoorShelf
import Derived.Test.YtiebedcldbmlhaaDoorF0
import Derived.WalkKit
import Derived.Lib.Hide
import Derived.Outline
import Derived.Deep.DeepFit
import Derived.WalkSpells
import Derived.WalkLawsBesides
import Derived.Deep.DeepCutAuto
import Derived.Deep.CutBlock
import Derived.RegionTactic
import Derived.BigQuiet
namespace Go.Proofs.YtiebedcldbmlhaaDoor.Fl
open Go.RowKit
set_option linter.unusedVariables false

theorem ret_int {k : IntKind} {a b : Int} (h : a = b) : Ending.returned (.int k a) = .returned (.int k b) := by rw [h]
theorem ret_bool {a b : Bool} (h : a = b) : Ending.returned (.bool a) = .returned (.bool b) := by rw [h]
theorem obj_cell {w : World} {g i : Nat} {c : Array Value} {t : TypeId} {v : Value} (h : w.heap[g]? = some (.cells c t (0, 0))) (hi : c[i]? = some v) : w.cell? ⟨g, i, none⟩ = some v := by
  simp [World.cell?, h, hi]
theorem obj_free {w : World} {g i : Nat} {c : Array Value} {t : TypeId} (h : w.heap[g]? = some (.cells c t (0, 0))) : w.frozen? ⟨g, i, none⟩ = false := by
  simp [World.frozen?, h]
theorem obj_set {w : World} {g i : Nat} {c : Array Value} {t : TypeId} {fr : Nat × Nat} (v : Value) (h : w.heap[g]? = some (.cells c t fr)) : (w.setCell ⟨g, i, none⟩ v).heap[g]? = some (.cells (c.setIfInBounds i v) t fr) := by
  simp [World.setCell, Array.getElem?_modify, h]
theorem set_same {c : Array Value} {i : Nat} {v : Value} (h : i < c.size) : (c.setIfInBounds i v)[i]? = some v := by
  simp [h]
theorem set_other {c : Array Value} {i j : Nat} {v : Value} (h : i ≠ j) : (c.setIfInBounds i v)[j]? = c[j]? := by
  rw [Array.getElem?_setIfInBounds_ne h]

/-- Only one block has changed. -/
structure Upd (c : Nat) (w w' : World) : Prop where
  os : w'.os = w.os
  tape : w'.tape = w.tape
  output : w'.output = w.output
  size : w'.heap.size = w.heap.size
  block : ∀ k, k ≠ c → w'.heap[k]? = w.heap[k]?
theorem Upd.refl (c : Nat) (w : World) : Upd c w w := ⟨rfl, rfl, rfl, rfl, fun _ _ => rfl⟩
theorem Upd.trans {c : Nat} {a b d : World} (h : Upd c a b) (k : Upd c b d) : Upd c a d :=
  ⟨k.os.trans h.os, k.tape.trans h.tape, k.output.trans h.output, k.size.trans h.size, fun j hj => (k.block j hj).trans (h.block j hj)⟩
theorem Upd.set {c : Nat} {w w' : World} (h : Upd c w w') (i : Nat) (v : Value) : Upd c w (w'.setCell ⟨c, i, none⟩ v) :=
  h.trans ⟨rfl, rfl, rfl, by simp, fun k hk => Below.heap_setCell w' ⟨c, i, none⟩ v k hk⟩
theorem Upd.cell {c g i : Nat} {w w' : World} {v : Value} (h : Upd c w w') (hg : g ≠ c) (hc : w.cell? ⟨g, i, none⟩ = some v) : w'.cell? ⟨g, i, none⟩ = some v :=
  (World.cell?_of_block (a := ⟨g, i, none⟩) (h.block g hg)).trans hc

theorem Upd.drewN {c : Nat} {w w' : World} (h : Upd c w w') (n : Nat) : Upd c w (w'.drewN n) := ⟨h.os, h.tape, h.output, h.size, h.block⟩

/-- The cells of a decimal, whatever its digits. -/
structure Raw (cs : Array Value) : Prop where
  size : cs.size = 804
  byte : ∀ i, i < 800 → ∃ b : Nat, b < 256 ∧ cs[i]? = some (.int .u8 b)
  neg : ∃ b : Bool, cs[802]? = some (.bool b)
  tr : ∃ b : Bool, cs[803]? = some (.bool b)
/-- The cells hold the digits of a number. -/
def DigAt (cs : Array Value) (D nd : Nat) : Prop := ∀ i, i < nd → cs[i]? = some (.int .u8 ((48 + dgt D (nd - 1 - i) : Nat) : Int))
/-- A decimal in memory. -/
structure Dec (w : World) (c D nd : Nat) (dp : Int) (tr : Bool) (cs : Array Value) (T : TypeId) : Prop where
  obj : w.heap[c]? = some (.cells cs T (0, 0))
  raw : Raw cs
  dig : DigAt cs D nd
  cnd : cs[800]? = some (.int .i64 nd)
  cdp : cs[801]? = some (.int .i64 dp)
  ctr : cs[803]? = some (.bool tr)
  lead : Lead D nd
  le : nd ≤ 800
theorem Dec.drewN {w : World} {c D nd : Nat} {dp : Int} {tr : Bool} {cs : Array Value} {T : TypeId} (h : Dec w c D nd dp tr cs T) (n : Nat) : Dec (w.drewN n) c D nd dp tr cs T := ⟨h.obj, h.raw, h.dig, h.cnd, h.cdp, h.ctr, h.lead, h.le⟩
theorem Raw.set {cs : Array Value} (h : Raw cs) {i : Nat} {b : Nat} (hi : i < 800) (hb : b < 256) : Raw (cs.setIfInBounds i (.int .u8 b)) := by
  refine ⟨by simp [h.size], fun j hj => ?_, ?_, ?_⟩
  · by_cases e : i = j
    · subst e; exact ⟨b, hb, set_same (by rw [h.size]; omega)⟩
    · rw [set_other e]; exact h.byte j hj
  · rw [set_other (by omega)]; exact h.neg
  · rw [set_other (by omega)]; exact h.tr
theorem Raw.setInt {cs : Array Value} (h : Raw cs) {i : Nat} {v : Value} (hi : i = 800 ∨ i = 801) : Raw (cs.setIfInBounds i v) := by
  refine ⟨by simp [h.size], fun j hj => ?_, ?_, ?_⟩
  · rw [set_other (by omega)]; exact h.byte j hj
  · rw [set_other (by omega)]; exact h.neg
  · rw [set_other (by omega)]; exact h.tr
theorem Raw.setTr {cs : Array Value} (h : Raw cs) (b : Bool) : Raw (cs.setIfInBounds 803 (.bool b)) := by
  refine ⟨by simp [h.size], fun j hj => ?_, ?_, ?_⟩
  · rw [set_other (by omega)]; exact h.byte j hj
  · rw [set_other (by omega)]; exact h.neg
  · exact ⟨b, set_same (by rw [h.size]; omega)⟩
theorem DigAt.set {cs : Array Value} {D nd i : Nat} {v : Value} (h : DigAt cs D nd) (hi : nd ≤ i) : DigAt (cs.setIfInBounds i v) D nd := fun j hj => by
  rw [set_other (by omega)]; exact h j hj

theorem dig_cut {cs : Array Value} {D nd m : Nat} (h : DigAt cs D nd) (h2 : m ≤ nd) : DigAt cs (D / 10 ^ (nd - m)) m := fun i hi => by
  rw [dgt_div, show m - 1 - i + (nd - m) = nd - 1 - i by omega]
  exact h i (by omega)
/-- A decimal in memory, its parts in one. -/
def DecS (w : World) (c : Nat) (s : St) (T : TypeId) : Prop := ∃ cs, Dec w c s.D s.nd s.dp s.tr cs T

set_option maxHeartbeats 1000000 in
theorem trim_any (c D nd : Nat) (dp : Int) (tr : Bool) (cs : Array Value) (T : TypeId) (w : World) (h : Dec w c D nd dp tr cs T) :
    Calls Tryd.prog 87 #[.pointer (some ⟨c, 0, none⟩)] w fun e w' => e = .returned (.tuple #[]) ∧ Upd c w w' ∧ DecS w' c ⟨(norm nd D).1, (norm nd D).2, dp, tr⟩ T := by
  have H := Lib.hid h
  clear h
  go_enter Tryd.func87, Tryd.ntmps87
  go_wp2_with fail
  go_loopw [] (fun wx => Upd c w wx ∧ ∃ m cs', 1 ≤ m ∧ m ≤ nd ∧ norm m (D / 10 ^ (nd - m)) = norm nd D ∧ Dec wx c (D / 10 ^ (nd - m)) m dp tr cs' T) (fun wx => match wx.cell? ⟨c, 800, none⟩ with | some (.int _ n) => n.toNat | _ => 0)
  case atStart => exact ⟨Upd.refl _ _, nd, cs, H.out.lead.one, Nat.le_refl _, by simp, by simpa using H.out⟩
  case round =>
    obtain ⟨hu, m, cs', hm1, hm2, hnm, hd⟩ := hrel
    obtain ⟨k, rfl⟩ : ∃ k, m = k + 1 := ⟨m - 1, by omega⟩
    obtain ⟨E, hE⟩ : ∃ E, E = D / 10 ^ (nd - (k + 1)) := ⟨_, rfl⟩
    rw [← hE] at hd hnm
    have c8 := obj_cell (i := 800) hd.obj hd.cnd
    have f8 := obj_free (i := 800) hd.obj
    have c9 := obj_cell (i := 801) hd.obj hd.cdp
    have f9 := obj_free (i := 801) hd.obj
    have cd := obj_cell (i := k) hd.obj (hd.dig k (by omega))
    rw [show k + 1 - 1 - k = 0 by omega] at cd
    obtain ⟨x, hx⟩ : ∃ x, x = dgt E 0 := ⟨_, rfl⟩
    rw [← hx] at cd
    have hk8 : k < 800 := by have := hd.le; omega
    have HD := Lib.hid hd
    have HU := Lib.hid hu
    have HE := Lib.hid hE
    have HX := Lib.hid hx
    have HN := Lib.hid hnm
    have g1 : decide ((0 : Int) < ((k + 1 : Nat) : Int)) = true := decide_eq_true (by omega)
    clear hd hu hE hx H hnm
    by_cases h0 : x = 0
    · subst h0
      have hk : k ≠ 0 := by
        rintro rfl
        have h1 := lead_top HD.out.lead
        have h2 := HX.out
        simp at h1
        omega
      have hE0 : E % 10 = 0 := by rw [← dgt_zero]; exact HX.out.symm
      have HN2 := Lib.hid ((norm_zero (n := k) hE0).symm.trans HN.out)
      clear hE0
      go_wp2_with fail
      go_quiet (fail)
      go_wp2_with fail
      go_roundw
      case rel =>
        have e1 : D / 10 ^ (nd - k) = E / 10 ^ (k + 1 - k) := by rw [HE.out, Nat.div_div_eq_div_mul, ← Nat.pow_add, show nd - (k + 1) + (k + 1 - k) = nd - k by omega]
        refine ⟨(HU.out.drewN _).set _ _, k, cs'.setIfInBounds 800 (.int .i64 k), by omega, by omega, ?_, ?_⟩
        · rw [e1, show k + 1 - k = 1 by omega, Nat.pow_one]; exact HN2.out
        rw [e1]
        refine ⟨obj_set _ (HD.out.drewN _).obj, HD.out.raw.setInt (.inl rfl), (dig_cut HD.out.dig (by omega)).set (by omega), set_same (by rw [HD.out.raw.size]; omega), ?_, ?_, lead_cut HD.out.lead (by omega) (by omega), by omega⟩
        · rw [set_other (by omega)]; exact HD.out.cdp
        · rw [set_other (by omega)]; exact HD.out.ctr
      case measure =>
        have s1 : ((wr.drewN nq).setCell ⟨c, 800, none⟩ (.int .i64 k)).cell? ⟨c, 800, none⟩ = some (.int .i64 k) := World.cell?_setCell_same _ _ _ c8
        rw [s1, c8]
        simp
    · have h0' : ((48 + x : Nat) : Int) ≠ 48 := by omega
      have hb : (((48 + x : Nat) : Int) == 48) = false := by simp; omega
      have hE0 : E % 10 ≠ 0 := by rw [← dgt_zero, ← HX.out]; exact h0
      have HN2 := Lib.hid ((norm_stop (n := k) hE0).symm.trans HN.out)
      clear hE0
      go_wp2_with fail
      go_quiet (fail)
      go_wp2_with fail
      go_end0
      exact ⟨rfl, HU.out.drewN _, cs', by rw [← HN2.out]; exact HD.out.drewN _⟩
end Go.Proofs.YtiebedcldbmlhaaDoor.Fl
