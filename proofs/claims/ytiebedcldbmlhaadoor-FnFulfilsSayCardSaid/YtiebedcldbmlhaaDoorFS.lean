/-
  What atof32 tells of a text: a plain relation, and the tables that it leans on. Conditions: none.
-/
import Derived.Test.YtiebedcldbmlhaaDoorFP
import Derived.Test.YtiebedcldbmlhaaDoorFQ
import Derived.Test.YtiebedcldbmlhaaDoorFR
namespace Go.Proofs.YtiebedcldbmlhaaDoor.Fl
open Go.RowKit
set_option linter.unusedVariables false

def errSyn : Value := .iface 66 (.int .i64 2)
def sgnV (neg : Bool) : Int := if neg then 2147483648 else 0
/-- The slow path. -/
def SlowT (l : List Nat) (er : Value) : Prop :=
  match setF l with
  | none => er = errSyn
  | some st => if st.nd = 0 then er = .nilIface else ∃ o, FBits st o ∧ er = errV o
/-- Whether two floats are alike. -/
def alike (a b : Nat) : Bool := FloatKind.f32.format.order a b == some .eq
/-- Behind a decimal number's reading. -/
def DecT (T : Nat → Nat × Nat) (l : List Nat) (r : Rd) (er : Value) : Prop :=
  if r.man = 0 then er = .nilIface
  else if 40 < r.exp then er = errV true
  else if r.exp < -70 then er = .nilIface
  else if r.tr = false then er = errV (pfR T r.man r.exp (sgnV r.neg))
  else if alike (pfB T r.man r.exp (sgnV r.neg)) (pfB T (r.man + 1) r.exp (sgnV r.neg)) = true then er = errV (pfR T r.man r.exp (sgnV r.neg))
  else SlowT (l.take r.n) er
/-- The tables and switches. -/
structure AEnv (T : Nat → Nat × Nat) (w : World) (B : Nat) : Prop where
  fe : FEnv w B
  pt : PTab T w
  st : STab w B
  opt : w.cell? ⟨5, 0, none⟩ = some (.bool true)
  g1 : 10 < B
  g2 : 5 < B
  size : B ≤ w.heap.size
theorem FEnv.below {w w' : World} {B B' : Nat} (h : FEnv w B) (hb : Below B' w w') (hB : B ≤ B') : FEnv w' B := by
  obtain ⟨l1, l2, l3⟩ := h.low
  obtain ⟨b, o, cap, hbb, hp, hq⟩ := h.p
  obtain ⟨b2, hb2, o2, cap2, hcs⟩ := h.c
  have key : ∀ g i v, g < B → w.cell? ⟨g, i, none⟩ = some v → w'.cell? ⟨g, i, none⟩ = some v := fun g i v hg hv => (hb.cell (p := ⟨g, i, none⟩) (Nat.lt_of_lt_of_le hg hB)).trans hv
  refine ⟨key _ _ _ l1 h.i0, key _ _ _ l1 h.i1, key _ _ _ l1 h.i2, ⟨b, o, cap, hbb, key _ _ _ l2 hp, fun i hi => key _ _ _ hbb (hq i hi)⟩, ⟨b2, hb2, o2, cap2, fun k h1 h2 => ?_⟩, h.low⟩
  obtain ⟨dl, m, ct, hc⟩ := hcs k h1 h2
  exact ⟨dl, m, ct, key _ _ _ l3 hc.g, key _ _ _ hb2 hc.c0, key _ _ _ hb2 hc.c1, hc.k1, hc.k60, hc.d1, hc.dlo, hc.dup, hc.sum, hc.size, hc.dig⟩
theorem STab.below {w w' : World} {B B' : Nat} (h : STab w B) (hb : Below B' w w') (hB : B ≤ B') : STab w' B := by
  obtain ⟨b, o, cap, hbb, hp, hq⟩ := h.t
  have key : ∀ g i v, g < B → w.cell? ⟨g, i, none⟩ = some v → w'.cell? ⟨g, i, none⟩ = some v := fun g i v hg hv => (hb.cell (p := ⟨g, i, none⟩) (Nat.lt_of_lt_of_le hg hB)).trans hv
  exact ⟨⟨b, o, cap, hbb, key _ _ _ h.g hp, fun i hi => by obtain ⟨v, hv⟩ := hq i hi; exact ⟨v, key _ _ _ hbb hv⟩⟩, h.g⟩
theorem AEnv.below {T : Nat → Nat × Nat} {w w' : World} {B B' : Nat} (h : AEnv T w B) (hb : Below B' w w') (hB : B ≤ B') : AEnv T w' B :=
  ⟨h.fe.below hb hB, h.pt.below hb (Nat.lt_of_lt_of_le h.g1 hB), h.st.below hb hB, (hb.cell (p := ⟨5, 0, none⟩) (Nat.lt_of_lt_of_le h.g2 hB)).trans h.opt, h.g1, h.g2, Nat.le_trans h.size hb.size⟩
theorem SetM.decS {w wx : World} {c : Nat} {T : TypeId} {st : St} {cs : Array Value} (h : SetM w wx c T st.D st.nd st.dp st.tr cs) (hn : st.nd ≠ 0) : DecS wx c st T := by
  refine ⟨cs, h.obj, h.raw, h.dig, h.cnd, h.cdp, h.ctr, ?_, h.le⟩
  rcases h.ld with ⟨h1, _⟩ | h1
  · exact absurd h1 hn
  · exact h1
def SlowPost (l : List Nat) (w : World) (n : Int) (e : Ending) (w' : World) : Prop := ∃ (fb : Nat) (er : Value), e = .returned (.tuple #[.float .f32 fb, .int .i64 n, er]) ∧ SlowT l er ∧ Below w.heap.size w w'
/-- What atof32 hands back. -/
def A32 (T : Nat → Nat × Nat) (l : List Nat) (n : Nat) (er : Value) : Prop :=
  match spN l with
  | some k => n = k ∧ er = .nilIface
  | none => match readF l with
    | none => er = errSyn
    | some r => n = r.n ∧ DecT T l r er
def A32Post (T : Nat → Nat × Nat) (l : List Nat) (w : World) (e : Ending) (w' : World) : Prop := ∃ (fb n : Nat) (er : Value), e = .returned (.tuple #[.float .f32 fb, .int .i64 n, er]) ∧ A32 T l n er ∧ Below w.heap.size w w'
theorem a32_mk {T : Nat → Nat × Nat} {l : List Nat} {w w' : World} {fb n : Nat} {er : Value} (h : A32 T l n er) (hb : Below w.heap.size w w') : A32Post T l w (.returned (.tuple #[.float .f32 fb, .int .i64 n, er])) w' := ⟨fb, n, er, rfl, h, hb⟩
theorem a32_sp {T : Nat → Nat × Nat} {l : List Nat} {k : Nat} (h : spN l = some k) : A32 T l k .nilIface := by unfold A32; rw [h]; exact ⟨rfl, rfl⟩
theorem a32_syn {T : Nat → Nat × Nat} {l : List Nat} {n : Nat} (h : spN l = none) (h2 : readF l = none) : A32 T l n errSyn := by unfold A32; rw [h, h2]
theorem a32_dec {T : Nat → Nat × Nat} {l : List Nat} {r : Rd} {er : Value} (h : spN l = none) (h2 : readF l = some r) (h3 : DecT T l r er) : A32 T l r.n er := by unfold A32; rw [h, h2]; exact ⟨rfl, h3⟩
theorem SlowT.none {l : List Nat} (h : setF l = .none) : SlowT l errSyn := by unfold SlowT; rw [h]
theorem SlowT.zero {l : List Nat} {st : St} (h : setF l = some st) (hn : st.nd = 0) : SlowT l .nilIface := by
  unfold SlowT
  rw [h]
  exact (if_pos hn).mpr rfl
theorem SlowT.num {l : List Nat} {st : St} {o : Bool} (h : setF l = some st) (hn : st.nd ≠ 0) (ho : FBits st o) : SlowT l (errV o) := by
  unfold SlowT
  rw [h]
  exact (if_neg hn).mpr ⟨o, ho, rfl⟩
end Go.Proofs.YtiebedcldbmlhaaDoor.Fl
