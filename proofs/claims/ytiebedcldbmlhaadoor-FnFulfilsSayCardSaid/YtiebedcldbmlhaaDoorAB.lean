/-
  What the measure answers, the program answers: kind by kind. Conditions: the package-level variables are laid; texts of moderate size.
-/
import Derived.Test.YtiebedcldbmlhaaDoorAA
namespace Go.Proofs.YtiebedcldbmlhaaDoor
open Go.RowKit
open Fl (ns OkF NoF)
set_option linter.unusedVariables false

/-- A list of texts in memory. -/
structure Dat (w : World) (a : Option Addr) (cap : Nat) (ds : List ByteArray) : Prop where
  at_ : (ds = [] ∧ (a = none → cap = 0)) ∨ ∃ b off, a = some ⟨b, off, none⟩ ∧ b < w.heap.size ∧ StrCells w b off ds ∧ ds.length ≤ cap
theorem Dat.below {w w' : World} {a : Option Addr} {cap : Nat} {ds : List ByteArray} (h : Dat w a cap ds) (hb : Below w.heap.size w w') : Dat w' a cap ds := by
  obtain ⟨h | ⟨b, off, h1, h2, h3, h4⟩⟩ := h
  · exact ⟨.inl h⟩
  · exact ⟨.inr ⟨b, off, h1, Nat.lt_of_lt_of_le h2 hb.size, h3.below hb h2, h4⟩⟩
theorem Dat.few {w : World} {a : Option Addr} {cap : Nat} {ds : List ByteArray} (h : Dat w a cap ds) (hn : 1 ≤ ds.length) : ∃ b off, a = some ⟨b, off, none⟩ ∧ b < w.heap.size ∧ StrCells w b off ds ∧ ds.length ≤ cap := by
  obtain ⟨⟨h1, _⟩ | h⟩ := h
  · rw [h1] at hn; exact absurd hn (by decide)
  · exact h
theorem short_empty (a : Option Addr) (cap : Nat) (w : World) : Calls Tryd.prog 7 #[.slice a 0 cap] w fun e w' => e = .returned (.bool true) ∧ w = w' := by
  go_enter Tryd.func7, Tryd.ntmps7
  go_wp2_with fail
  refine wp_loop_rounds 1 ?_; rw [rounds_succ]
  go_wp2_with fail
  go_ret
  exact ⟨rfl, rfl⟩
theorem fits1_empty (a : Option Addr) (cap : Nat) (w : World) : Calls Tryd.prog 12 #[.slice a 0 cap] w fun e w' => e = .returned (.bool true) ∧ w = w' := by
  go_enter Tryd.func12, Tryd.ntmps12
  go_wp2_with fail
  refine wp_loop_rounds 1 ?_; rw [rounds_succ]
  go_wp2_with fail
  go_ret
  exact ⟨rfl, rfl⟩
theorem Dat.short {w : World} {a : Option Addr} {cap : Nat} {ds : List ByteArray} (h : Dat w a cap ds) (hm : ds.length ≤ maxLen) : Calls Tryd.prog 7 #[.slice a ds.length cap] w fun e w' => e = .returned (.bool (shortB ds)) ∧ w = w' := by
  obtain ⟨⟨h2, _⟩ | ⟨b, off, h1, _, h3, _⟩⟩ := h
  · subst h2
    exact short_empty a cap w
  · subst h1
    exact short_some b off cap ds w hm h3
theorem Dat.fits {w : World} {a : Option Addr} {cap : Nat} {ds : List ByteArray} (h : Dat w a cap ds) (hm : ds.length ≤ maxLen) : Calls Tryd.prog 12 #[.slice a ds.length cap] w fun e w' => e = .returned (.bool (fitsB ds)) ∧ w = w' := by
  obtain ⟨⟨h2, _⟩ | ⟨b, off, h1, _, h3, _⟩⟩ := h
  · subst h2
    exact fits1_empty a cap w
  · subst h1
    exact fits1_some b off cap ds w hm h3

/-- What the program's Fulfils answers. -/
def Impl (kind : Int) (dv : Value) (s : ByteArray) (w : World) (X : Bool) : Prop :=
  ∀ w', Below w.heap.size w w' → Calls Tryd.prog 6 #[.agg #[.int .i64 kind, dv], .string s] w' fun e w'' => e = .returned (.bool X) ∧ Below w'.heap.size w' w''
theorem Spec.imp {X Y : Bool → Prop} {e : Ending} (h : Spec X e) (hi : ∀ b, X b → Y b) : Spec Y e := by
  obtain ⟨b, y, he, h | ⟨h1, h2⟩⟩ := h
  · exact ⟨b, y, he, .inl h⟩
  · exact ⟨b, y, he, .inr ⟨h1, hi b h2⟩⟩
/-- What a constraint without numbers is checked for. -/
def Small (kind : Int) (s : ByteArray) (w : World) (X : Bool) : Prop :=
  ∀ (p : Nat) (w' : World), Below w.heap.size w w' → w'.cell? ⟨p, 0, none⟩ = some (.int .i16 kind) →
      Calls Tryd.prog 11 #[.pointer (some ⟨p, 0, none⟩), .string s] w' fun e w'' => e = .returned (.bool X) ∧ Below w'.heap.size w' w''
theorem Small.below {kind : Int} {s : ByteArray} {w w' : World} {X : Bool} (h : Small kind s w X) (hb : Below w.heap.size w w') : Small kind s w' X :=
  fun p w2 h2 hc => h p w2 (hb.trans (h2.mono hb.size)) hc
theorem impl_small {kind : Int} {s : ByteArray} {w : World} {X : Bool} {a : Option Addr} {cap : Nat} {ds : List ByteArray} (hk1 : 1 ≤ kind) (hk2 : kind ≤ 15) (hE : Env w) (hD : Dat w a cap ds) (hl : ds.length ≤ 1000) (h : Small kind s w X) : Impl kind (.slice a ds.length cap) s w X := by
  intro w' hb
  have hE' := hE.below hb hE.size
  have h' := h.below hb
  obtain ⟨⟨h2, h3⟩ | ⟨b, off, h1, _, h3, _⟩⟩ := hD.below hb
  · subst h2
    cases a with
    | none =>
      rw [h3 rfl]
      exact fulfils_nil kind s w' hE' hk1 hk2 X h'
    | some A => exact fulfils_empty kind A cap s w' hE' hk1 hk2 X h'
  · subst h1
    rcases Nat.eq_zero_or_pos ds.length with h0 | h0
    · rw [h0]
      exact fulfils_empty kind ⟨b, off, none⟩ cap s w' hE' hk1 hk2 X h'
    · exact fulfils_some kind b off ds.length cap s ds w' hE' hk1 hk2 h0 rfl hl h3 X (fun p g c w2 hb2 hc _ _ => h' p w2 hb2 hc)
theorem impl_some {kind : Int} {s : ByteArray} {w : World} {X : Bool} {a : Option Addr} {cap : Nat} {ds : List ByteArray} (hk1 : 1 ≤ kind) (hk2 : kind ≤ 15) (hE : Env w) (hD : Dat w a cap ds) (h0 : 1 ≤ ds.length) (hl : ds.length ≤ 1000)
    (h : ∀ (p g cap' : Nat) (w' : World), Env w' → w'.cell? ⟨p, 0, none⟩ = some (.int .i16 kind) → w'.cell? ⟨p, 0 + 1, none⟩ = some (.slice (some ⟨g, 0, none⟩) ds.length cap') → w'.cell? ⟨g, 0, none⟩ = some (.string (d0 ds)) → (2 ≤ ds.length → w'.cell? ⟨g, 0 + 1, none⟩ = some (.string (d1 ds))) →
      Calls Tryd.prog 11 #[.pointer (some ⟨p, 0, none⟩), .string s] w' fun e w'' => e = .returned (.bool X) ∧ Below w'.heap.size w' w'') : Impl kind (.slice a ds.length cap) s w X := by
  intro w' hb
  obtain ⟨b, off, rfl, _, h3, _⟩ := (hD.below hb).few h0
  have hE' := hE.below hb hE.size
  refine fulfils_some kind b off ds.length cap s ds w' hE' hk1 hk2 h0 rfl hl h3 X (fun p g c w2 hb2 hc hc1 hs => ?_)
  exact h p g c w2 (hE'.below hb2 hE'.size) hc hc1 (hs 0 (by omega)) (fun h2 => hs 1 (by omega))

/-- The texts are of moderate size. -/
structure Mod (s : ByteArray) (ds : List ByteArray) : Prop where
  s : s.size ≤ 300
  l : ds.length ≤ 5
  d : ∀ i, i < ds.length → (ds.getD i ByteArray.empty).size ≤ 2000
theorem Mod.d0 {s : ByteArray} {ds : List ByteArray} (h : Mod s ds) : (d0 ds).size ≤ 2000 := by
  unfold YtiebedcldbmlhaaDoor.d0
  rcases Nat.eq_zero_or_pos ds.length with h0 | h0
  · rw [List.length_eq_zero_iff.1 h0]; decide
  · exact h.d 0 h0
theorem Mod.d1 {s : ByteArray} {ds : List ByteArray} (h : Mod s ds) : (d1 ds).size ≤ 2000 := by
  unfold YtiebedcldbmlhaaDoor.d1
  rcases Nat.lt_or_ge 1 ds.length with h0 | h0
  · exact h.d 1 h0
  · have : ds.getD 1 ByteArray.empty = ByteArray.empty := by simp [List.getD, List.getElem?_eq_none h0]
    rw [this]; decide
theorem num_open {kind need : Int} {n : Nat} (X : Bool → Prop) (hk : kind = 8 ∧ need = 1 ∨ kind = 9 ∧ need = 1 ∨ kind = 10 ∧ need = 1 ∨ kind = 11 ∧ need = 2 ∨ kind = 12 ∧ need = 1 ∨ kind = 13 ∧ need = 1 ∨ kind = 14 ∧ need = 2) (hn : need = (n : Int)) (a : Option Addr) (cap : Nat) (ds : List ByteArray) (hl : ds.length < n) (s : ByteArray) (w : World) :
    Calls Tryd.prog 10 #[.agg #[.int .i64 kind, .slice a ds.length cap], .string s] w fun e w' => Spec X e ∧ Below w.heap.size w w' :=
  spec_few X kind need hk a ds.length cap s w (fun w' => by rw [hn]; exact numbers_few _ ds.length n cap a rfl hl w')
theorem nums {need : Int} {n : Nat} (hn : need = (n : Int)) (h1 : 1 ≤ n) (h2 : n ≤ 2) {w : World} {a : Option Addr} {cap : Nat} {ds : List ByteArray} {s : ByteArray} (hD : Dat w a cap ds) (hM : Mod s ds) (hl : n ≤ ds.length) :
    ∀ w', Below w.heap.size w w' → Calls Tryd.prog 17 #[.slice a ds.length cap, .int .i64 need] w' (NumPost ds n w') := by
  intro w' hb
  obtain ⟨b, off, rfl, _, h3, h4⟩ := (hD.below hb).few (by omega)
  rw [hn]
  have := hM.l
  exact numbers_some b off cap n ds w' h1 h2 hl (by omega) h4 (fun i hi => by have := hM.d i hi; omega) h3

theorem law1 {s : ByteArray} {w : World} {a : Option Addr} {cap : Nat} {ds : List ByteArray} (hE : Env w) (hD : Dat w a cap ds) (hM : Mod s ds) :
    Calls Tryd.prog 10 #[.agg #[.int .i64 1, .slice a ds.length cap], .string s] w fun e w' => Spec (Impl 1 (.slice a ds.length cap) s w) e ∧ Below w.heap.size w w' :=
  (spec1 a ds.length cap s w).mono fun e w' ⟨h, hb⟩ => ⟨h.imp fun b hx => by
    subst hx
    exact impl_small (by decide) (by decide) hE hD (by have := hM.l; omega) (fun p w' hb hc => check1 p 0 s w' hc), hb⟩
theorem law2 {s : ByteArray} {w : World} {a : Option Addr} {cap : Nat} {ds : List ByteArray} (hE : Env w) (hD : Dat w a cap ds) (hM : Mod s ds) :
    Calls Tryd.prog 10 #[.agg #[.int .i64 2, .slice a ds.length cap], .string s] w fun e w' => Spec (Impl 2 (.slice a ds.length cap) s w) e ∧ Below w.heap.size w w' :=
  (spec2 a ds.length cap s w (by have := hM.s; omega)).mono fun e w' ⟨h, hb⟩ => ⟨h.imp fun b ⟨h1, hx⟩ => by
    have hb : b = atoiOk s.data.toList := by
      rw [hx]
      rcases wsay_cases s with h | h | h
      · rw [zero_val h, h]; rfl
      · rw [(one_val h).2, h]; rfl
      · exact absurd h h1
    rw [hb]
    exact impl_small (by decide) (by decide) hE hD (by have := hM.l; omega) (fun p w' hb hc => check2 p 0 .nilIface s w' (hE.below hb hE.size) (by have := hM.s; omega) hc), hb⟩
theorem law3 {s : ByteArray} {w : World} {a : Option Addr} {cap : Nat} {ds : List ByteArray} (hE : Env w) (hD : Dat w a cap ds) (hM : Mod s ds) :
    Calls Tryd.prog 10 #[.agg #[.int .i64 3, .slice a ds.length cap], .string s] w fun e w' => Spec (Impl 3 (.slice a ds.length cap) s w) e ∧ Below w.heap.size w w' :=
  (spec3 a ds.length cap s w).mono fun e w' ⟨h, hb⟩ => ⟨h.imp fun b hx => by
    rw [hx]
    exact impl_small (by decide) (by decide) hE hD (by have := hM.l; omega) (fun p w' hb hc => check3 p 0 s w' (hE.below hb hE.size) (by have := hM.s; omega) hc), hb⟩
theorem law4 {T : Nat → Nat × Nat} {B : Nat} {s : ByteArray} {w : World} {a : Option Addr} {cap : Nat} {ds : List ByteArray} (hE : EnvF T B w) (hD : Dat w a cap ds) (hM : Mod s ds) :
    Calls Tryd.prog 10 #[.agg #[.int .i64 4, .slice a ds.length cap], .string s] w fun e w' => Spec (Impl 4 (.slice a ds.length cap) s w) e ∧ Below w.heap.size w w' :=
  (spec4 a ds.length cap s w (by have := hM.s; omega)).mono fun e w' ⟨h, hb⟩ => ⟨h.imp fun b ⟨h1, hx⟩ => by
    refine impl_small (by decide) (by decide) hE.env hD (by have := hM.l; omega) (fun p w' hb hc => check4 T B b p 0 s w' (hE.below hb) (by have := hM.s; omega) (fun hok => ?_) (fun hno => ?_) (plain_hex (ns_small s) h1) hc)
    · rcases plainN_cases (ns s) with h | h | h
      · exact absurd hok (plain_back (ns_small s) h)
      · rw [hx, h]; rfl
      · exact absurd h h1
    · rcases plainN_cases (ns s) with h | h | h
      · rw [hx, h]; rfl
      · exact absurd hno (plain_no (plain_of (ns_small s) h))
      · exact absurd h h1, hb⟩
theorem law5 {T : Nat → Nat × Nat} {B : Nat} {s : ByteArray} {w : World} {a : Option Addr} {cap : Nat} {ds : List ByteArray} (hE : EnvF T B w) (hD : Dat w a cap ds) (hM : Mod s ds) :
    Calls Tryd.prog 10 #[.agg #[.int .i64 5, .slice a ds.length cap], .string s] w fun e w' => Spec (Impl 5 (.slice a ds.length cap) s w) e ∧ Below w.heap.size w w' :=
  (spec5 T B a ds.length cap s w hE (by have := hM.s; omega)).mono fun e w' ⟨h, hb⟩ => ⟨h.imp fun b hx => by
    rw [hx]
    exact impl_small (by decide) (by decide) hE.env hD (by have := hM.l; omega) (fun p w' hb hc => check5 T B p 0 s w' (hE.below hb) (by have := hM.s; omega) hc), hb⟩
theorem one_d0 {ds : List ByteArray} {n : Nat} (h : AllOne ds n) (hn : 1 ≤ n) : wsay (d0 ds) = 1 := h 0 hn
theorem one_d1 {ds : List ByteArray} {n : Nat} (h : AllOne ds n) (hn : 2 ≤ n) : wsay (d1 ds) = 1 := h 1 hn
theorem len8 {kind D0 D1 : Int} {s : ByteArray} (ha : ascB s = true) (hk : kind = 8) : (lengthN kind D0 D1 s).1 = decide (D0 ≤ s.size) := by
  unfold lengthN; rw [if_neg (by rw [ha]; decide), if_pos hk]
theorem len9 {kind D0 D1 : Int} {s : ByteArray} (ha : ascB s = true) (hk : kind = 9) : (lengthN kind D0 D1 s).1 = decide ((s.size : Int) ≤ D0) := by
  unfold lengthN; rw [if_neg (by rw [ha]; decide), if_neg (by omega), if_pos hk]
theorem len10 {kind D0 D1 : Int} {s : ByteArray} (ha : ascB s = true) (hk : kind = 10) : (lengthN kind D0 D1 s).1 = decide ((s.size : Int) = D0) := by
  unfold lengthN; rw [if_neg (by rw [ha]; decide), if_neg (by omega), if_neg (by omega), if_pos hk]
  show ((s.size : Int) == D0) = _
  by_cases h : (s.size : Int) = D0
  · rw [h]; simp
  · rw [decide_eq_false h]; exact beq_eq_false_iff_ne.2 h
theorem len11 {kind D0 D1 : Int} {s : ByteArray} (ha : ascB s = true) (hk : kind = 11) : (lengthN kind D0 D1 s).1 = (decide (D0 ≤ s.size) && decide ((s.size : Int) ≤ D1)) := by
  unfold lengthN; rw [if_neg (by rw [ha]; decide), if_neg (by omega), if_neg (by omega), if_neg (by omega)]
theorem law8 {s : ByteArray} {w : World} {a : Option Addr} {cap : Nat} {ds : List ByteArray} (kind : Int) (hkk : kind = 8 ∨ kind = 9 ∨ kind = 10) (hE : Env w) (hD : Dat w a cap ds) (hM : Mod s ds) :
    Calls Tryd.prog 10 #[.agg #[.int .i64 kind, .slice a ds.length cap], .string s] w fun e w' => Spec (Impl kind (.slice a ds.length cap) s w) e ∧ Below w.heap.size w w' := by
  rcases Nat.eq_zero_or_pos ds.length with h0 | h0
  · exact num_open (n := 1) (need := 1) _ (by omega) rfl a cap ds (by omega) s w
  · have hs := hM.s
    have hd0 := hM.d0
    have hd1 := hM.d1
    refine (spec_len kind 1 1 (by omega) (by decide) a ds.length cap ds h0 s (by omega) w (nums (n := 1) rfl (by decide) (by decide) hD hM h0)).mono fun e w' ⟨h, hb⟩ => ⟨h.imp fun b ⟨h1, h2, hx⟩ => ?_, hb⟩
    obtain ⟨v0, _⟩ := one_val (one_d0 h1 (by decide))
    refine impl_some (by omega) (by omega) hE hD h0 (by have := hM.l; omega) (fun p g c w2 hE2 c0 c1 c2 c3 => ?_)
    rcases hkk with rfl | rfl | rfl
    · rw [hx, len8 h2 rfl, ← v0]
      exact check8 p 0 g 0 c ds.length s _ (d1 ds) w2 hE2 (by omega) (by omega) (by omega) h0 c0 c1 c2
    · rw [hx, len9 h2 rfl, ← v0]
      exact check9 p 0 g 0 c ds.length s _ (d1 ds) w2 hE2 (by omega) (by omega) (by omega) h0 c0 c1 c2
    · rw [hx, len10 h2 rfl, ← v0]
      exact check10 p 0 g 0 c ds.length s _ (d1 ds) w2 hE2 (by omega) (by omega) (by omega) h0 c0 c1 c2
theorem law11 {s : ByteArray} {w : World} {a : Option Addr} {cap : Nat} {ds : List ByteArray} (hE : Env w) (hD : Dat w a cap ds) (hM : Mod s ds) :
    Calls Tryd.prog 10 #[.agg #[.int .i64 11, .slice a ds.length cap], .string s] w fun e w' => Spec (Impl 11 (.slice a ds.length cap) s w) e ∧ Below w.heap.size w w' := by
  rcases Nat.lt_or_ge ds.length 2 with h0 | h0
  · exact num_open (n := 2) (need := 2) _ (by omega) rfl a cap ds (by omega) s w
  · have hs := hM.s
    have hd0 := hM.d0
    have hd1 := hM.d1
    refine (spec_len 11 2 2 (by omega) (by decide) a ds.length cap ds h0 s (by omega) w (nums (n := 2) rfl (by decide) (by decide) hD hM h0)).mono fun e w' ⟨h, hb⟩ => ⟨h.imp fun b ⟨h1, h2, hx⟩ => ?_, hb⟩
    obtain ⟨v0, _⟩ := one_val (one_d0 h1 (by decide))
    obtain ⟨v1, _⟩ := one_val (one_d1 h1 (by decide))
    refine impl_some (by omega) (by omega) hE hD (by omega) (by have := hM.l; omega) (fun p g c w2 hE2 c0 c1 c2 c3 => ?_)
    rw [hx, len11 h2 rfl, ← v0, ← v1]
    exact check11 p 0 g 0 c ds.length s _ _ w2 hE2 (by omega) (by omega) (by omega) h0 c0 c1 c2 (c3 h0)
theorem num_x {s : ByteArray} (h : wsay s ≠ 2) (C : Int → Bool) : (decide (wsay s ≠ 0) && C (wv s)) = (C (atoiVal s.data.toList) && atoiOk s.data.toList) := by
  rcases wsay_cases s with h0 | h0 | h0
  · rw [zero_val h0, decide_eq_false (by omega)]
    simp
  · rw [(one_val h0).2, (one_val h0).1, decide_eq_true (by omega)]
    simp
  · exact absurd h0 h
theorem law12 {s : ByteArray} {w : World} {a : Option Addr} {cap : Nat} {ds : List ByteArray} (kind : Int) (hkk : kind = 12 ∨ kind = 13) (hE : Env w) (hD : Dat w a cap ds) (hM : Mod s ds) :
    Calls Tryd.prog 10 #[.agg #[.int .i64 kind, .slice a ds.length cap], .string s] w fun e w' => Spec (Impl kind (.slice a ds.length cap) s w) e ∧ Below w.heap.size w w' := by
  rcases Nat.eq_zero_or_pos ds.length with h0 | h0
  · exact num_open (n := 1) (need := 1) _ (by omega) rfl a cap ds (by omega) s w
  · have hs := hM.s
    have hd0 := hM.d0
    have hd1 := hM.d1
    refine (spec_num kind 1 1 (by omega) (by decide) a ds.length cap ds h0 s (by omega) w (nums (n := 1) rfl (by decide) (by decide) hD hM h0)).mono fun e w' ⟨h, hb⟩ => ⟨h.imp fun b ⟨h1, h2, hx⟩ => ?_, hb⟩
    obtain ⟨v0, _⟩ := one_val (one_d0 h1 (by decide))
    refine impl_some (by omega) (by omega) hE hD h0 (by have := hM.l; omega) (fun p g c w2 hE2 c0 c1 c2 c3 => ?_)
    rw [num_x h2 (cmpN kind (wv (d0 ds)) (wv (d1 ds))), ← v0] at hx
    rw [hx]
    rcases hkk with rfl | rfl
    · exact check12 p 0 g 0 c ds.length s _ (d1 ds) w2 hE2 (by omega) (by omega) (by omega) h0 c0 c1 c2
    · exact check13 p 0 g 0 c ds.length s _ (d1 ds) w2 hE2 (by omega) (by omega) (by omega) h0 c0 c1 c2
theorem law14 {s : ByteArray} {w : World} {a : Option Addr} {cap : Nat} {ds : List ByteArray} (hE : Env w) (hD : Dat w a cap ds) (hM : Mod s ds) :
    Calls Tryd.prog 10 #[.agg #[.int .i64 14, .slice a ds.length cap], .string s] w fun e w' => Spec (Impl 14 (.slice a ds.length cap) s w) e ∧ Below w.heap.size w w' := by
  rcases Nat.lt_or_ge ds.length 2 with h0 | h0
  · exact num_open (n := 2) (need := 2) _ (by omega) rfl a cap ds (by omega) s w
  · have hs := hM.s
    have hd0 := hM.d0
    have hd1 := hM.d1
    refine (spec_num 14 2 2 (by omega) (by decide) a ds.length cap ds h0 s (by omega) w (nums (n := 2) rfl (by decide) (by decide) hD hM h0)).mono fun e w' ⟨h, hb⟩ => ⟨h.imp fun b ⟨h1, h2, hx⟩ => ?_, hb⟩
    obtain ⟨v0, _⟩ := one_val (one_d0 h1 (by decide))
    obtain ⟨v1, _⟩ := one_val (one_d1 h1 (by decide))
    refine impl_some (by omega) (by omega) hE hD (by omega) (by have := hM.l; omega) (fun p g c w2 hE2 c0 c1 c2 c3 => ?_)
    rw [num_x h2 (cmpN 14 (wv (d0 ds)) (wv (d1 ds))), ← v0, ← v1] at hx
    rw [hx]
    exact check14 p 0 g 0 c ds.length s _ _ w2 hE2 (by omega) (by omega) (by omega) h0 c0 c1 c2 (c3 h0)
/-- Whatever the constraint. -/
theorem law_spec {T : Nat → Nat × Nat} {B : Nat} (kind : Int) {s : ByteArray} {w : World} {a : Option Addr} {cap : Nat} {ds : List ByteArray} (hE : EnvF T B w) (hD : Dat w a cap ds) (hM : Mod s ds) :
    Calls Tryd.prog 10 #[.agg #[.int .i64 kind, .slice a ds.length cap], .string s] w fun e w' => Spec (Impl kind (.slice a ds.length cap) s w) e ∧ Below w.heap.size w w' := by
  by_cases hk : (1 ≤ kind ∧ kind ≤ 5) ∨ (8 ≤ kind ∧ kind ≤ 14)
  · rcases (show kind = 1 ∨ kind = 2 ∨ kind = 3 ∨ kind = 4 ∨ kind = 5 ∨ (kind = 8 ∨ kind = 9 ∨ kind = 10) ∨ kind = 11 ∨ (kind = 12 ∨ kind = 13) ∨ kind = 14 by omega) with rfl | rfl | rfl | rfl | rfl | h | rfl | h | rfl
    · exact law1 hE.env hD hM
    · exact law2 hE.env hD hM
    · exact law3 hE.env hD hM
    · exact law4 hE hD hM
    · exact law5 hE hD hM
    · exact law8 kind h hE.env hD hM
    · exact law11 hE.env hD hM
    · exact law12 kind h hE.env hD hM
    · exact law14 hE.env hD hM
  · exact spec_other _ kind a ds.length cap s w (fun j hj e => hk (e ▸ hj))
end Go.Proofs.YtiebedcldbmlhaaDoor
