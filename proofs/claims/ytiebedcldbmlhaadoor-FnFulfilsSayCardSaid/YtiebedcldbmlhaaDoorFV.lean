/-
  strconv.ParseFloat at bitSize 32. Conditions: the tables, the package-level errors; a text that is no hexadecimal number, within the reach.
-/
import Derived.Test.YtiebedcldbmlhaaDoorFU
namespace Go.Proofs.YtiebedcldbmlhaaDoor.Fl
open Go.RowKit
set_option linter.unusedVariables false

/-- The package-level errors hold interface values. -/
structure EEnv (w : World) : Prop where
  e2 : ∃ te pe, w.cell? ⟨2, 0, none⟩ = some (.iface te pe)
  e3 : ∃ te pe, w.cell? ⟨3, 0, none⟩ = some (.iface te pe)
  size : 2 < w.heap.size ∧ 3 < w.heap.size
theorem EEnv.below {B : Nat} {w w' : World} (h : EEnv w) (hb : Below B w w') (hB : w.heap.size ≤ B) : EEnv w' := by
  obtain ⟨t, p, h2⟩ := h.e2
  obtain ⟨t', p', h3⟩ := h.e3
  have := hb.size
  have hs := h.size
  exact ⟨⟨t, p, (hb.cell (p := ⟨2, 0, none⟩) (show 2 < B by omega)).trans h2⟩, ⟨t', p', (hb.cell (p := ⟨3, 0, none⟩) (show 3 < B by omega)).trans h3⟩, by omega, by omega⟩
/-- The error that strconv.ParseFloat hands back. -/
def SpfErr (T : Nat → Nat × Nat) (l : List Nat) (ev : Value) : Prop := (ev = .nilIface ∧ OkF T l) ∨ (NoF T l ∧ ∃ N, ev = .iface 70 (.pointer (some ⟨N, 0, none⟩)))
def SpfPost (T : Nat → Nat × Nat) (l : List Nat) (w : World) (e : Ending) (w' : World) : Prop := ∃ (fb : Nat) (ev : Value), e = .returned (.tuple #[.float .f64 fb, ev]) ∧ SpfErr T l ev ∧ Below w.heap.size w w'
theorem syn_ne (w : World) : (binOp .neq 50 errSyn .nilIface).run Tryd.prog w = .ok (.bool true) w := by kernel_rfl
theorem rng_ne (w : World) : (binOp .neq 50 (errV true) .nilIface).run Tryd.prog w = .ok (.bool true) w := by kernel_rfl
set_option maxHeartbeats 1000000 in
set_option maxRecDepth 100000 in
theorem spf_dec (T : Nat → Nat × Nat) (B : Nat) (s : ByteArray) (w : World) (hs : s.size ≤ 1000000000) (hE : AEnv T w B) (hEE : EEnv w) (hnx : ∀ r, readF (ns s) = some r → r.hx = false) :
    Calls Tryd.prog 21 #[.string s, .int .i64 32] w (SpfPost T (ns s) w) := by
  have HA := Lib.hid (ipf_dec T B s w hs hE hnx)
  have HEE := Lib.hid hEE
  clear hE hnx hEE
  go_enter Tryd.func21, Tryd.ntmps21
  go_wp2_with fail
  refine HA.out.mono ?_
  rintro e w1 ⟨fb, er, rfl, hp, hb⟩
  have HB := Lib.hid hb
  have HE1 := Lib.hid (HEE.out.below hb (Nat.le_refl _))
  clear hb
  rcases hp with ⟨rfl, hok⟩ | ⟨hno, rfl | rfl⟩
  · have HO := Lib.hid hok
    clear hok
    go_wp2_with fail
    go_ret2
    exact ⟨fb, .nilIface, rfl, .inl ⟨rfl, HO.out⟩, HB.out⟩
  · have HO := Lib.hid hno
    obtain ⟨te, pe, hv⟩ := HE1.out.e2
    have hne := syn_ne
    unfold errSyn at hne ⊢
    have HC := Lib.hid (Tryd.strconv_toError_syntax ⟨#[80, 97, 114, 115, 101, 70, 108, 111, 97, 116]⟩ s 0 32 _ w1 (by omega) hv (.inr ⟨te, pe, rfl⟩))
    clear hno hv
    go_wp2_with fail
    refine HC.out.mono ?_
    rintro e2 w2 ⟨N, rfl, _, _, hb2⟩
    have HB2 := Lib.hid (HB.out.trans (hb2.mono HB.out.size))
    clear hb2
    go_wp2_with fail
    go_ret2
    exact ⟨fb, _, rfl, .inr ⟨HO.out, N, rfl⟩, HB2.out⟩
  · have HO := Lib.hid hno
    obtain ⟨te, pe, hv⟩ := HE1.out.e3
    have hne := rng_ne
    have he : errV true = .iface 66 (.int .i64 1) := rfl
    rw [he] at hne ⊢
    have HC := Lib.hid (Tryd.strconv_toError_range ⟨#[80, 97, 114, 115, 101, 70, 108, 111, 97, 116]⟩ s 0 32 _ w1 (by omega) hv (.inr ⟨te, pe, rfl⟩))
    clear hno hv he
    go_wp2_with fail
    refine HC.out.mono ?_
    rintro e2 w2 ⟨N, rfl, _, _, hb2⟩
    have HB2 := Lib.hid (HB.out.trans (hb2.mono HB.out.size))
    clear hb2
    go_wp2_with fail
    go_ret2
    exact ⟨fb, _, rfl, .inr ⟨HO.out, N, rfl⟩, HB2.out⟩
end Go.Proofs.YtiebedcldbmlhaaDoor.Fl
