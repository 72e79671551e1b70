/-
  Joined: What atof32 tells of a text: a plain relation, and the tables that it leans on; atofHex at the floats of 32 bits: whether it answers the error.
  Conditions: each law's own.
-/
import Derived.Test.YtiebedcldbmlhaaGreatDoorK10
import Derived.Test.YtiebedcldbmlhaaGreatDoorK11
import Derived.Test.YtiebedcldbmlhaaGreatDoorK08
import Derived.Test.YtiebedcldbmlhaaGreatDoorK01
namespace Go.Proofs.YtiebedcldbmlhaaGreatDoor.Fl
open Go.RowKit
set_option linter.unusedVariables false

def errSyn : Value := .iface 123 (.int .i64 2)
def sgnV (neg : Bool) : Int := if neg then 2147483648 else 0
/-- The slow path. -/
def SlowT (l : List Nat) (er : Value) : Prop :=
  match setF l with
  | none => er = errSyn
  | some st => if st.nd = 0 then er = .nilIface else ∃ o, FBits st o ∧ er = errV o
/-- Whether two floats are alike. -/
def alike (a b : Nat) : Bool := FloatKind.f32.format.order a b == some .eq
/-- Behind a decimal number's reading. -/
def DecT (T : Nat → Nat × Nat) (l : List Nat) (r : Rd) (er : Value) : Prop :=
  if r.man = 0 then er = .nilIface
  else if 40 < r.exp then er = errV true
  else if r.exp < -70 then er = .nilIface
  else if r.tr = false then er = errV (pfR T r.man r.exp (sgnV r.neg))
  else if alike (pfB T r.man r.exp (sgnV r.neg)) (pfB T (r.man + 1) r.exp (sgnV r.neg)) = true then er = errV (pfR T r.man r.exp (sgnV r.neg))
  else SlowT (l.take r.n) er
/-- The tables and switches. -/
structure AEnv (T : Nat → Nat × Nat) (w : World) (B : Nat) : Prop where
  fe : FEnv w B
  pt : PTab T w
  st : STab w B
  opt : w.cell? ⟨5, 0, none⟩ = some (.bool true)
  g1 : 12 < B
  g2 : 5 < B
  size : B ≤ w.heap.size
theorem FEnv.below {w w' : World} {B B' : Nat} (h : FEnv w B) (hb : Below B' w w') (hB : B ≤ B') : FEnv w' B := by
  obtain ⟨l1, l2, l3⟩ := h.low
  obtain ⟨b, o, cap, hbb, hp, hq⟩ := h.p
  obtain ⟨b2, hb2, o2, cap2, hcs⟩ := h.c
  have key : ∀ g i v, g < B → w.cell? ⟨g, i, none⟩ = some v → w'.cell? ⟨g, i, none⟩ = some v := fun g i v hg hv => (hb.cell (p := ⟨g, i, none⟩) (Nat.lt_of_lt_of_le hg hB)).trans hv
  refine ⟨key _ _ _ l1 h.i0, key _ _ _ l1 h.i1, key _ _ _ l1 h.i2, ⟨b, o, cap, hbb, key _ _ _ l2 hp, fun i hi => key _ _ _ hbb (hq i hi)⟩, ⟨b2, hb2, o2, cap2, fun k h1 h2 => ?_⟩, h.low⟩
  obtain ⟨dl, m, ct, hc⟩ := hcs k h1 h2
  exact ⟨dl, m, ct, key _ _ _ l3 hc.g, key _ _ _ hb2 hc.c0, key _ _ _ hb2 hc.c1, hc.k1, hc.k60, hc.d1, hc.dlo, hc.dup, hc.sum, hc.size, hc.dig⟩
theorem STab.below {w w' : World} {B B' : Nat} (h : STab w B) (hb : Below B' w w') (hB : B ≤ B') : STab w' B := by
  obtain ⟨b, o, cap, hbb, hp, hq⟩ := h.t
  have key : ∀ g i v, g < B → w.cell? ⟨g, i, none⟩ = some v → w'.cell? ⟨g, i, none⟩ = some v := fun g i v hg hv => (hb.cell (p := ⟨g, i, none⟩) (Nat.lt_of_lt_of_le hg hB)).trans hv
  exact ⟨⟨b, o, cap, hbb, key _ _ _ h.g hp, fun i hi => by obtain ⟨v, hv⟩ := hq i hi; exact ⟨v, key _ _ _ hbb hv⟩⟩, h.g⟩
theorem AEnv.below {T : Nat → Nat × Nat} {w w' : World} {B B' : Nat} (h : AEnv T w B) (hb : Below B' w w') (hB : B ≤ B') : AEnv T w' B :=
  ⟨h.fe.below hb hB, h.pt.below hb (Nat.lt_of_lt_of_le h.g1 hB), h.st.below hb hB, (hb.cell (p := ⟨5, 0, none⟩) (Nat.lt_of_lt_of_le h.g2 hB)).trans h.opt, h.g1, h.g2, Nat.le_trans h.size hb.size⟩
theorem SetM.decS {w wx : World} {c : Nat} {T : TypeId} {st : St} {cs : Array Value} (h : SetM w wx c T st.D st.nd st.dp st.tr cs) (hn : st.nd ≠ 0) : DecS wx c st T := by
  refine ⟨cs, h.obj, h.raw, h.dig, h.cnd, h.cdp, h.ctr, ?_, h.le⟩
  rcases h.ld with ⟨h1, _⟩ | h1
  · exact absurd h1 hn
  · exact h1
def SlowPost (l : List Nat) (w : World) (n : Int) (e : Ending) (w' : World) : Prop := ∃ (fb : Nat) (er : Value), e = .returned (.tuple #[.float .f32 fb, .int .i64 n, er]) ∧ SlowT l er ∧ Below w.heap.size w w'
/-- What atof32 hands back. -/
def A32 (T : Nat → Nat × Nat) (l : List Nat) (n : Nat) (er : Value) : Prop :=
  match spN l with
  | some k => n = k ∧ er = .nilIface
  | none => match readF l with
    | none => er = errSyn
    | some r => n = r.n ∧ if r.hx = true then er = errV (hxErr r.man r.exp r.tr) else DecT T l r er
def A32Post (T : Nat → Nat × Nat) (l : List Nat) (w : World) (e : Ending) (w' : World) : Prop := ∃ (fb n : Nat) (er : Value), e = .returned (.tuple #[.float .f32 fb, .int .i64 n, er]) ∧ A32 T l n er ∧ Below w.heap.size w w'
theorem a32_mk {T : Nat → Nat × Nat} {l : List Nat} {w w' : World} {fb n : Nat} {er : Value} (h : A32 T l n er) (hb : Below w.heap.size w w') : A32Post T l w (.returned (.tuple #[.float .f32 fb, .int .i64 n, er])) w' := ⟨fb, n, er, rfl, h, hb⟩
theorem a32_sp {T : Nat → Nat × Nat} {l : List Nat} {k : Nat} (h : spN l = some k) : A32 T l k .nilIface := by unfold A32; rw [h]; exact ⟨rfl, rfl⟩
theorem a32_syn {T : Nat → Nat × Nat} {l : List Nat} {n : Nat} (h : spN l = none) (h2 : readF l = none) : A32 T l n errSyn := by unfold A32; rw [h, h2]
theorem a32_dec {T : Nat → Nat × Nat} {l : List Nat} {r : Rd} {er : Value} (h : spN l = none) (h2 : readF l = some r) (h3 : DecT T l r er) (hx : r.hx = false) : A32 T l r.n er := by unfold A32; rw [h, h2]; exact ⟨rfl, by rw [if_neg (by rw [hx]; decide)]; exact h3⟩
theorem a32_hex {T : Nat → Nat × Nat} {l : List Nat} {r : Rd} (h : spN l = none) (h2 : readF l = some r) (hx : r.hx = true) : A32 T l r.n (errV (hxErr r.man r.exp r.tr)) := by unfold A32; rw [h, h2]; exact ⟨rfl, by rw [if_pos hx]⟩
theorem SlowT.none {l : List Nat} (h : setF l = .none) : SlowT l errSyn := by unfold SlowT; rw [h]
theorem SlowT.zero {l : List Nat} {st : St} (h : setF l = some st) (hn : st.nd = 0) : SlowT l .nilIface := by
  unfold SlowT
  rw [h]
  exact (if_pos hn).mpr rfl
theorem SlowT.num {l : List Nat} {st : St} {o : Bool} (h : setF l = some st) (hn : st.nd ≠ 0) (ho : FBits st o) : SlowT l (errV o) := by
  unfold SlowT
  rw [h]
  exact (if_neg hn).mpr ⟨o, ho, rfl⟩
end Go.Proofs.YtiebedcldbmlhaaGreatDoor.Fl
namespace Go.Proofs.YtiebedcldbmlhaaGreatDoor.Fl
open Go.RowKit
set_option linter.unusedVariables false

theorem conv32h (fb : Nat) (w : World) : ∃ r q, (convert 150 92 (.float .f32 fb)).run Tryz.prog w = .ok (.float .f64 r) (w.drewN q) :=
  fconv_run _ _ _ _ fb _ Tryz.underlying150 Tryz.underlying92 w
theorem conv32all : ∃ (r q : Nat → World → Nat), ∀ fb w, (convert 150 92 (.float .f32 fb)).run Tryz.prog w = .ok (.float .f64 (r fb w)) (w.drewN (q fb w)) :=
  ⟨fun fb w => (conv32h fb w).choose, fun fb w => (conv32h fb w).choose_spec.choose, fun fb w => (conv32h fb w).choose_spec.choose_spec⟩
theorem ptr_same (w : World) : (binOp .eql 167 (.pointer (some ⟨4, 0, none⟩)) (.pointer (some ⟨4, 0, none⟩))).run Tryz.prog w = .ok (.bool true) w := by kernel_rfl
/-- What is left behind atofHex. -/
def HexPost (b : Bool) (w : World) (e : Ending) (w' : World) : Prop := ∃ fb : Nat, e = .returned (.tuple #[.float .f64 fb, errV b]) ∧ Below w.heap.size w w'

set_option maxHeartbeats 4000000 in
set_option maxRecDepth 100000 in
theorem hex_any (s : ByteArray) (man : Nat) (exp : Int) (neg tr : Bool) (w : World)
    (i0 : w.cell? ⟨4, 0, none⟩ = some (.int .u64 23)) (i1 : w.cell? ⟨4, 1, none⟩ = some (.int .u64 8)) (i2 : w.cell? ⟨4, 2, none⟩ = some (.int .i64 (-127)))
    (hm : man < 18446744073709551616) (he1 : -10000000000 ≤ exp) (he2 : exp ≤ 10000000000) :
    Calls Tryz.prog 113 #[.string s, .pointer (some ⟨4, 0, none⟩), .int .u64 man, .int .i64 exp, .bool neg, .bool tr] w (HexPost (hxErr man exp tr) w) := by
  obtain ⟨b, hb⟩ : ∃ b, b = hxErr man exp tr := ⟨_, rfl⟩
  rw [← hb]
  have HB := Lib.hid hb
  clear hb
  go_enter Tryz.func113, Tryz.ntmps113
  go_wp2_with fail
  go_quiet (fail)
  go_upto_block 0 with fail
  obtain ⟨E, hE⟩ : ∃ E, E = exp + 23 := ⟨_, rfl⟩
  obtain ⟨W, hW⟩ : ∃ W, W = w.drewN nq := ⟨_, rfl⟩
  have hbW : Below w.heap.size w W := by rw [hW]; exact below_drewN _ _ _
  have j0 : W.cell? ⟨4, 0, none⟩ = some (.int .u64 23) := by rw [hW]; exact i0
  have j1 : W.cell? ⟨4, 1, none⟩ = some (.int .u64 8) := by rw [hW]; exact i1
  have j2 : W.cell? ⟨4, 2, none⟩ = some (.int .i64 (-127)) := by rw [hW]; exact i2
  have HBW := Lib.hid hbW
  have HE := Lib.hid hE
  rw [← hW, ← hE]
  have hE1 : -10000000000 ≤ E - 23 := by omega
  have hE2 : E - 23 ≤ 10000000000 := by omega
  clear hW hbW hE i0 i1 i2 he1 he2
  go_cut [2, 3] from 42 to 57 (fun m e wx => ∃ (mm : Nat) (ee : Int), m = .int .u64 mm ∧ e = .int .i64 ee ∧ mm < 18446744073709551616 ∧ E - 64 ≤ ee ∧ ee ≤ E ∧ (mm, ee) = hxUp 64 man E ∧ wx = W)
  case first =>
    go_wp2_with fail
    go_loop [2, 3] (fun m e => ∃ (k mm : Nat) (ee : Int), m = .int .u64 mm ∧ e = .int .i64 ee ∧ mm < 18446744073709551616 ∧ k ≤ 64 ∧ ee - k = E - 64 ∧ (mm = 0 ∨ 33554432 ≤ mm * 2 ^ k) ∧ hxUp k mm ee = hxUp 64 man E) (fun m e => (intOf e - (E - 64)).toNat)
    case atStart => exact ⟨64, man, E, rfl, rfl, hm, Nat.le_refl _, rfl, by omega, rfl⟩
    case round =>
      obtain ⟨k, mm, ee, rfl, rfl, hmm, hk, hek, hz, hup⟩ := hrel
      have HUP := Lib.hid hup
      by_cases h0 : mm = 0
      · have h0d : ((mm : Int) != 0) = false := by rw [h0]; rfl
        have HE0 := Lib.hid (hxUp_end (k := k) (e := ee) (.inl h0))
        clear h0 hz
        go_wp2_with fail
        go_meet
        case rel => exact ⟨mm, ee, rfl, rfl, hmm, by omega, by omega, by rw [← HUP.out]; exact HE0.out.symm, rfl⟩
      · have h0d : ((mm : Int) != 0) = true := bne_iff_ne.2 (by omega)
        by_cases hs : mm < 33554432
        · have hsd : ((mm : Int) / 33554432 == 0) = true := beq_iff_eq.2 (by omega)
          obtain ⟨j, rfl⟩ : ∃ j, k = j + 1 := by
            cases k with
            | zero => exfalso; simp at hz; omega
            | succ j => exact ⟨j, rfl⟩
          have hst := hxUp_go (k := j) (e := ee) h0 hs
          have hz2 : 33554432 ≤ mm * 2 * 2 ^ j := by
            rcases hz with hz | hz
            · exact absurd hz h0
            · rw [Nat.pow_succ] at hz
              rw [Nat.mul_assoc, Nat.mul_comm 2]; exact hz
          have HST := Lib.hid hst
          have HZ2 := Lib.hid hz2
          clear hst hz2 hz
          go_wp2_with fail
          go_round
          case rel => exact ⟨j, mm * 2, ee - 1, by go_num, by go_num, by omega, by omega, by omega, .inr HZ2.out, by rw [← HST.out]; exact HUP.out⟩
          case measure => simp [intOf]; omega
        · have hsd : ((mm : Int) / 33554432 == 0) = false := beq_eq_false_iff_ne.2 (by omega)
          go_wp2_with fail
          go_meet
          case rel => exact ⟨mm, ee, rfl, rfl, hmm, by omega, by omega, by rw [← HUP.out]; exact (hxUp_end (.inr (by omega))).symm, rfl⟩
  case rest =>
  obtain ⟨m1, e1, rfl, rfl, hm1, hb1, hb2, heq1, rfl⟩ := hcut
  obtain ⟨m2, hm2d⟩ : ∃ m2, m2 = if tr = true then m1 ||| 1 else m1 := ⟨_, rfl⟩
  have hm2 : m2 < 18446744073709551616 := by
    rw [hm2d]
    split
    · have : m1 ||| 1 < 2 ^ 64 := Nat.or_lt_two_pow (by omega) (by decide)
      omega
    · exact hm1
  have HM2 := Lib.hid (show b = hxMid m2 e1 by
    rw [HB.out]
    unfold hxErr
    rw [← HE.out, ← heq1, hm2d])
  have HT := Lib.hid hm2d
  clear hm2d heq1 HB
  go_upto_if 58 with fail
  go_cut [2, 5, 58] from 59 to 60 (fun m a c wx => m = .int .u64 m2 ∧ a = .bool tr ∧ c = .bool tr ∧ wx = wc)
  case first =>
    cases htr : tr with
    | true =>
      have ho : bits .or .u64 (m1 : Int) 1 = ((m1 ||| 1 : Nat) : Int) := by simpa using or_nat hm1 (c := 1) (by decide)
      have HT2 := Lib.hid (show m2 = m1 ||| 1 by rw [HT.out, htr]; rfl)
      have HTR := Lib.hid htr
      clear htr
      go_wp2_with fail
      go_meet
      case rel => exact ⟨by rw [HT2.out], by rw [HTR.out], by rw [HTR.out], rfl⟩
    | false =>
      have HT2 := Lib.hid (show m2 = m1 by rw [HT.out, htr]; rfl)
      have HTR := Lib.hid htr
      clear htr
      go_wp2_with fail
      go_meet
      case rel => exact ⟨by rw [HT2.out], by rw [HTR.out], by rw [HTR.out], rfl⟩
  case rest =>
  obtain ⟨rfl, rfl, rfl, rfl⟩ := hcut
  clear HT
  go_upto_block 2 with fail
  go_cut [2, 3] from 61 to 76 (fun m e wx => ∃ (mm : Nat) (ee : Int), m = .int .u64 mm ∧ e = .int .i64 ee ∧ mm < 67108864 ∧ e1 ≤ ee ∧ ee ≤ e1 + 64 ∧ (mm, ee) = hxDn 64 m2 e1 ∧ wx = wc)
  case first =>
    go_wp2_with fail
    go_loop [2, 3] (fun m e => ∃ (k mm : Nat) (ee : Int), m = .int .u64 mm ∧ e = .int .i64 ee ∧ mm < 18446744073709551616 ∧ k ≤ 64 ∧ ee + k = e1 + 64 ∧ mm < 2 ^ k ∧ hxDn k mm ee = hxDn 64 m2 e1) (fun m e => (e1 + 64 - intOf e).toNat)
    case atStart => exact ⟨64, m2, e1, rfl, rfl, hm2, Nat.le_refl _, rfl, by omega, rfl⟩
    case round =>
      obtain ⟨k, mm, ee, rfl, rfl, hmm, hk, hek, hmk, hup⟩ := hrel
      have HUP := Lib.hid hup
      by_cases hs : 67108864 ≤ mm
      · have hsd : ((mm : Int) / 67108864 != 0) = true := bne_iff_ne.2 (by omega)
        obtain ⟨j, rfl⟩ : ∃ j, k = j + 2 := by
          rcases k with _ | _ | j
          · exfalso; simp at hmk; omega
          · exfalso; simp at hmk; omega
          · exact ⟨j, rfl⟩
        have hst := hxDn_go (k := j + 1) (e := ee) hs
        · skip
          have hlt := half_lt (m := mm) (k := j) hmk
          have hh : half mm < 18446744073709551616 := by
            have : half mm < 2 ^ 64 := Nat.or_lt_two_pow (by omega) (by omega)
            omega
          obtain ⟨d, hdd⟩ : ∃ d, d = mm / 2 := ⟨_, rfl⟩
          obtain ⟨p, hpp⟩ : ∃ p, p = mm % 2 := ⟨_, rfl⟩
          obtain ⟨x, hx⟩ : ∃ x, x = half mm := ⟨_, rfl⟩
          have f1 : (mm : Int) / 2 = (d : Int) := by omega
          have f2 : bits .and .u64 (mm : Int) 1 = (p : Int) := by rw [hpp]; exact and_one hmm
          have f3 : bits .or .u64 (d : Int) (p : Int) = (x : Int) := by
            rw [hx, hdd, hpp]
            exact or_nat (by omega) (by omega)
          rw [← hx] at hst hlt hh
          have HST := Lib.hid hst
          have HLT := Lib.hid hlt
          clear hst hlt hmk hdd hpp hx
          go_wp2_with fail
          go_round
          case rel => exact ⟨j + 1, x, ee + 1, by go_num, by go_num, hh, by omega, by omega, HLT.out, by rw [← HST.out]; exact HUP.out⟩
          case measure => simp [intOf]; omega
      · have hsd : ((mm : Int) / 67108864 != 0) = false := bne_eq_false_iff_eq.2 (by omega)
        have HE0 := Lib.hid (hxDn_end (k := k) (e := ee) (show mm < 67108864 by omega))
        clear hmk
        go_wp2_with fail
        go_meet
        case rel => exact ⟨mm, ee, rfl, rfl, by omega, by omega, by omega, by rw [← HUP.out]; exact HE0.out.symm, rfl⟩
  case rest =>
  obtain ⟨m3, e3, rfl, rfl, hm3, hb3, hb4, heq3, rfl⟩ := hcut
  have HM3 := Lib.hid (show b = hxFin (hxDen 64 m3 e3).1 (hxDen 64 m3 e3).2 by rw [HM2.out]; unfold hxMid; rw [← heq3])
  clear heq3 HM2
  go_upto_block 4 with fail
  go_cut [2, 3] from 77 to 91 (fun m e wx => ∃ (mm : Nat) (ee : Int), m = .int .u64 mm ∧ e = .int .i64 ee ∧ mm < 67108864 ∧ e3 ≤ ee ∧ ee ≤ e3 + 64 ∧ (mm, ee) = hxDen 64 m3 e3 ∧ wx = wc)
  case first =>
    go_wp2_with fail
    go_loop [2, 3] (fun m e => ∃ (k mm : Nat) (ee : Int), m = .int .u64 mm ∧ e = .int .i64 ee ∧ mm < 67108864 ∧ k ≤ 64 ∧ ee + k = e3 + 64 ∧ mm < 2 ^ k ∧ hxDen k mm ee = hxDen 64 m3 e3) (fun m e => (e3 + 64 - intOf e).toNat)
    case atStart => exact ⟨64, m3, e3, rfl, rfl, hm3, Nat.le_refl _, rfl, by omega, rfl⟩
    case round =>
      obtain ⟨k, mm, ee, rfl, rfl, hmm', hk, hek, hmk, hup⟩ := hrel
      have hmm : mm < 18446744073709551616 := by omega
      have HUP := Lib.hid hup
      by_cases hs : 1 < mm
      · have hsd : decide ((1 : Int) < (mm : Int)) = true := decide_eq_true (by omega)
        by_cases he : ee < -128
        · have hed : decide (ee < -128) = true := decide_eq_true he
          obtain ⟨j, rfl⟩ : ∃ j, k = j + 2 := by
            rcases k with _ | _ | j
            · exfalso; simp at hmk; omega
            · exfalso; simp at hmk; omega
            · exact ⟨j, rfl⟩
          have hst := hxDen_go (k := j + 1) (e := ee) hs he
          have hmm2 : half mm < 67108864 := by
            have : half mm < 2 ^ 26 := Nat.or_lt_two_pow (by omega) (by omega)
            omega
          have hlt := half_lt (m := mm) (k := j) hmk
          have hh := hmm2
          obtain ⟨d, hdd⟩ : ∃ d, d = mm / 2 := ⟨_, rfl⟩
          obtain ⟨p, hpp⟩ : ∃ p, p = mm % 2 := ⟨_, rfl⟩
          obtain ⟨x, hx⟩ : ∃ x, x = half mm := ⟨_, rfl⟩
          have f1 : (mm : Int) / 2 = (d : Int) := by omega
          have f2 : bits .and .u64 (mm : Int) 1 = (p : Int) := by rw [hpp]; exact and_one hmm
          have f3 : bits .or .u64 (d : Int) (p : Int) = (x : Int) := by
            rw [hx, hdd, hpp]
            exact or_nat (by omega) (by omega)
          rw [← hx] at hst hlt hh hmm2
          have HST := Lib.hid hst
          have HLT := Lib.hid hlt
          clear hst hlt hmk hdd hpp hx
          go_wp2_with fail
          go_round
          case rel => exact ⟨j + 1, x, ee + 1, by go_num, by go_num, hh, by omega, by omega, HLT.out, by rw [← HST.out]; exact HUP.out⟩
          case measure => simp [intOf]; omega
        · have hed : decide (ee < -128) = false := decide_eq_false he
          have HE0 := Lib.hid (hxDen_end (k := k) (m := mm) (e := ee) (.inr (by omega)))
          clear hmk
          go_wp2_with fail
          go_meet
          case rel => exact ⟨mm, ee, rfl, rfl, by omega, by omega, by omega, by rw [← HUP.out]; exact HE0.out.symm, rfl⟩
      · have hsd : decide ((1 : Int) < (mm : Int)) = false := decide_eq_false (by omega)
        have HE0 := Lib.hid (hxDen_end (k := k) (m := mm) (e := ee) (.inl (by omega)))
        clear hmk
        go_wp2_with fail
        go_meet
        case rel => exact ⟨mm, ee, rfl, rfl, by omega, by omega, by omega, by rw [← HUP.out]; exact HE0.out.symm, rfl⟩
  case rest =>
  obtain ⟨m4, e4, rfl, rfl, hm4, hb5, hb6, heq4, rfl⟩ := hcut
  have HM4 := Lib.hid (show b = hxFin m4 e4 by rw [HM3.out, ← heq4])
  clear heq4 HM3
  obtain ⟨q, hqd⟩ : ∃ q, q = m4 / 4 := ⟨_, rfl⟩
  obtain ⟨r4, hr4⟩ : ∃ r4, r4 = m4 % 4 := ⟨_, rfl⟩
  obtain ⟨p, hpd⟩ : ∃ p, p = q % 2 := ⟨_, rfl⟩
  obtain ⟨ro, hro⟩ : ∃ ro, ro = r4 ||| p := ⟨_, rfl⟩
  have hq24 : q < 16777216 := by omega
  have f1 : (m4 : Int) / 4 = (q : Int) := by omega
  have f2 : bits .and .u64 (m4 : Int) 3 = (r4 : Int) := by
    have := and_mask (a := m4) (k := 2) (by omega) (by decide)
    rw [hr4]; simpa using this
  have f3 : bits .and .u64 (q : Int) 1 = (p : Int) := by rw [hpd]; exact and_one (by omega)
  have f4 : bits .or .u64 (r4 : Int) (p : Int) = (ro : Int) := by rw [hro]; exact or_nat (by omega) (by omega)
  have HR := Lib.hid (show hxR m4 e4 = if ro = 3 then (if q + 1 = 16777216 then (8388608, e4 + 3) else (q + 1, e4 + 2)) else (q, e4 + 2) by unfold hxR; rw [hro, hr4, hpd, hqd])
  clear hqd hr4 hpd hro
  go_upto_if 103 with fail
  go_cut [2, 3, 103] from 104 to 117 (fun m e _ wx => ∃ (mm : Nat) (ee : Int), m = .int .u64 mm ∧ e = .int .i64 ee ∧ mm ≤ 16777216 ∧ e4 + 2 ≤ ee ∧ ee ≤ e4 + 3 ∧ hxR m4 e4 = (mm, ee) ∧ wx = wc)
  case first =>
    by_cases h3 : ro = 3
    · have h3d : ((ro : Int) == 3) = true := by rw [h3]; rfl
      by_cases h24 : q + 1 = 16777216
      · have HR2 := Lib.hid (show hxR m4 e4 = (8388608, e4 + 3) by rw [HR.out, if_pos h3, if_pos h24])
        obtain rfl : q = 16777215 := by omega
        clear h3 h24 f1 f2 f3 f4
        go_wp2_with fail
        go_meet
        case rel => exact ⟨8388608, e4 + 3, rfl, by go_num, by omega, by omega, by omega, HR2.out, rfl⟩
      · have HR2 := Lib.hid (show hxR m4 e4 = (q + 1, e4 + 2) by rw [HR.out, if_pos h3, if_neg h24])
        have h24d : ((q : Int) + 1 == 16777216) = false := beq_eq_false_iff_ne.2 (by omega)
        clear h3
        go_wp2_with fail
        go_meet
        case rel => exact ⟨q + 1, e4 + 2, by go_num, rfl, by omega, by omega, by omega, HR2.out, rfl⟩
    · have h3d : ((ro : Int) == 3) = false := beq_eq_false_iff_ne.2 (by omega)
      have HR2 := Lib.hid (show hxR m4 e4 = (q, e4 + 2) by rw [HR.out, if_neg h3])
      clear h3
      go_wp2_with fail
      go_meet
      case rel => exact ⟨q, e4 + 2, rfl, rfl, by omega, by omega, by omega, HR2.out, rfl⟩
  case rest =>
  obtain ⟨m5, e5, rfl, rfl, hm5, hb7, hb8, heq5, rfl⟩ := hcut
  have HM5 := Lib.hid (show b = if m5 < 8388608 then false else decide (127 < e5) by rw [HM4.out]; unfold hxFin; rw [heq5])
  clear heq5 HM4 HR f1 f2 f3 f4
  have hcall := bits32_run
  have hpe := ptr_same
  obtain ⟨rr, qq, hconv⟩ := conv32all
  by_cases hsm : m5 < 8388608
  · have hsmd : ((m5 : Int) / 8388608 == 0) = true := beq_iff_eq.2 (by omega)
    have HF := Lib.hid (show b = false by rw [HM5.out, if_pos hsm])
    cases neg with
    | true =>
      go_wp2_with fail
      go_quiet (fail)
      go_wp2_with fail
      go_quiet (fail)
      go_wp2_with fail
      go_ret2
      exact ⟨_, by rw [HF.out]; rfl, HBW.out.trans (below_drewN _ _ _)⟩
    | false =>
      go_wp2_with fail
      go_quiet (fail)
      go_wp2_with fail
      go_ret2
      exact ⟨_, by rw [HF.out]; rfl, HBW.out.trans (below_drewN _ _ _)⟩
  · have hsmd : ((m5 : Int) / 8388608 == 0) = false := beq_eq_false_iff_ne.2 (by omega)
    by_cases h127 : 127 < e5
    · have h127d : decide (127 < e5) = true := decide_eq_true h127
      have HF := Lib.hid (show b = true by rw [HM5.out, if_neg hsm]; exact h127d)
      cases neg with
      | true =>
        go_wp2_with fail
        go_quiet (fail)
        go_wp2_with fail
        go_quiet (fail)
        go_wp2_with fail
        go_ret2
        exact ⟨_, by rw [HF.out]; rfl, HBW.out.trans (below_drewN _ _ _)⟩
      | false =>
        go_wp2_with fail
        go_quiet (fail)
        go_wp2_with fail
        go_ret2
        exact ⟨_, by rw [HF.out]; rfl, HBW.out.trans (below_drewN _ _ _)⟩
    · have h127d : decide (127 < e5) = false := decide_eq_false h127
      have HF := Lib.hid (show b = false by rw [HM5.out, if_neg hsm]; exact h127d)
      cases neg with
      | true =>
        go_wp2_with fail
        go_quiet (fail)
        go_wp2_with fail
        go_quiet (fail)
        go_wp2_with fail
        go_ret2
        exact ⟨_, by rw [HF.out]; rfl, HBW.out.trans (below_drewN _ _ _)⟩
      | false =>
        go_wp2_with fail
        go_quiet (fail)
        go_wp2_with fail
        go_ret2
        exact ⟨_, by rw [HF.out]; rfl, HBW.out.trans (below_drewN _ _ _)⟩
end Go.Proofs.YtiebedcldbmlhaaGreatDoor.Fl
