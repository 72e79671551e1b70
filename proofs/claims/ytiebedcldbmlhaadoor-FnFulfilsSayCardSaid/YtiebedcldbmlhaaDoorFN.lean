/-
  atof32exact: some float, and that it is exact only where the number is small. Conditions: the table of small powers.
-/
import Derived.Test.YtiebedcldbmlhaaDoorFM
namespace Go.Proofs.YtiebedcldbmlhaaDoor.Fl
open Go.RowKit
set_option linter.unusedVariables false

theorem arith_run (op : BinOp) (hop : op = .mul ∨ op = .quo) (t : TypeId) (k : FloatKind) (x y : Nat) (w : World) : ∃ r q, (binOp op t (.float k x) (.float k y)).run Tryd.prog w = .ok (.float k r) (w.drewN q) := by
  rcases hop with rfl | rfl
  · cases hm : k.format.mul x y with
    | some r => exact ⟨r, 0, by simp [binOp, Op.floatArith, hm]; rfl⟩
    | none =>
      by_cases hf : (Question.nanBits k x y).forced = true
      · exact ⟨0, 0, by simp [binOp, Op.floatArith, hm, hf]; rfl⟩
      · exact ⟨_, 1, by simp [binOp, Op.floatArith, hm, hf]; exact ⟨rfl, rfl⟩⟩
  · cases hm : k.format.div x y with
    | some r => exact ⟨r, 0, by simp [binOp, Op.floatArith, hm]; rfl⟩
    | none =>
      by_cases hf : (Question.nanBits k x y).forced = true
      · exact ⟨0, 0, by simp [binOp, Op.floatArith, hm, hf]; rfl⟩
      · exact ⟨_, 1, by simp [binOp, Op.floatArith, hm, hf]; exact ⟨rfl, rfl⟩⟩
/-- The table of small powers. -/
structure STab (w : World) (B : Nat) : Prop where
  t : ∃ b o cap, b < B ∧ w.cell? ⟨7, 0, none⟩ = some (.slice (some ⟨b, o, none⟩) 11 cap) ∧ ∀ i, i < 11 → ∃ v, w.cell? ⟨b, o + i, none⟩ = some (.float .f32 v)
  g : 7 < B
def ExPost (d : Nat) (p : Int) (w : World) (e : Ending) (w' : World) : Prop := ∃ (fb : Nat) (ok : Bool), e = .returned (.tuple #[.float .f32 fb, .bool ok]) ∧ (ok = true → d < 8388608 ∧ -10 ≤ p ∧ p ≤ 17) ∧ ∃ q, w' = w.drewN q
set_option maxHeartbeats 2000000 in
set_option maxRecDepth 100000 in
theorem exact_any (d : Nat) (p : Int) (neg : Bool) (B : Nat) (w : World) (hS : STab w B) (hd : d < 18446744073709551616) (hp1 : -1000 ≤ p) (hp2 : p ≤ 1000) :
    Calls Tryd.prog 52 #[.int .u64 d, .int .i64 p, .bool neg] w (ExPost d p w) := by
  obtain ⟨tb, tbo, tc, _, t0, ht⟩ := hS.t
  by_cases h23 : d < 8388608
  · have hsh : (d : Int) / 8388608 = 0 := by omega
    have HAR := Lib.hid (fun (op : BinOp) (hop : op = .mul ∨ op = .quo) (x y : Nat) (w : World) => arith_run op hop 94 .f32 x y w)
    have hneg : ∀ (b : Nat) (w : World), (Op.unary .neg (.float .f32 b)).run Tryd.prog w = .ok (.float .f32 (Op.negFloat .f32 b)) w := fun _ _ => rfl
    have HT := Lib.hid ht
    have H23 := Lib.hid h23
    clear ht hS
    by_cases hp0 : p = 0
    · subst hp0
      cases neg with
      | true =>
        go_enter Tryd.func52, Tryd.ntmps52
        go_wp2_with fail
        all_goals
          go_ret2
          first
            | exact ⟨_, _, rfl, fun _ => ⟨H23.out, by omega, by omega⟩, 0, rfl⟩
            | exact ⟨_, _, rfl, fun _ => ⟨H23.out, by omega, by omega⟩, _, rfl⟩
            | exact ⟨_, _, rfl, fun h => absurd h (by decide), 0, rfl⟩
            | exact ⟨_, _, rfl, fun h => absurd h (by decide), _, rfl⟩
      | false =>
        go_enter Tryd.func52, Tryd.ntmps52
        go_wp2_with fail
        all_goals
          go_ret2
          first
            | exact ⟨_, _, rfl, fun _ => ⟨H23.out, by omega, by omega⟩, 0, rfl⟩
            | exact ⟨_, _, rfl, fun _ => ⟨H23.out, by omega, by omega⟩, _, rfl⟩
            | exact ⟨_, _, rfl, fun h => absurd h (by decide), 0, rfl⟩
            | exact ⟨_, _, rfl, fun h => absurd h (by decide), _, rfl⟩
    have hp0d : (p == 0) = false := by simp; exact hp0
    by_cases hpos : 0 < p
    · have hposd : decide (0 < p) = true := decide_eq_true hpos
      by_cases h17 : p ≤ 17
      · have h17d : decide (p ≤ 17) = true := decide_eq_true h17
        by_cases h10 : 10 < p
        · have h10d : decide (10 < p) = true := decide_eq_true h10
          obtain ⟨j, hj⟩ : ∃ j : Nat, p - 10 = (j : Int) := ⟨(p - 10).toNat, by omega⟩
          obtain ⟨v, hv⟩ := HT.out j (by omega)
          obtain ⟨v10, hv10⟩ := HT.out 10 (by omega)
          have hj11 : (j : Int) < 11 := by omega
          cases neg with
          | true =>
            obtain ⟨r, q, hr⟩ := HAR.out .mul (.inl rfl) (Op.negFloat .f32 (floatOfInt .f32 d)) v w
            obtain ⟨r2, q2, hr2⟩ := HAR.out .mul (.inl rfl) r v10 (w.drewN q)
            go_enter Tryd.func52, Tryd.ntmps52
            go_wp2_with fail
            all_goals
              go_ret2
              first
                | exact ⟨_, _, rfl, fun _ => ⟨H23.out, by omega, by omega⟩, 0, rfl⟩
                | exact ⟨_, _, rfl, fun _ => ⟨H23.out, by omega, by omega⟩, _, rfl⟩
                | exact ⟨_, _, rfl, fun h => absurd h (by decide), 0, rfl⟩
                | exact ⟨_, _, rfl, fun h => absurd h (by decide), _, rfl⟩
          | false =>
            obtain ⟨r, q, hr⟩ := HAR.out .mul (.inl rfl) (floatOfInt .f32 d) v w
            obtain ⟨r2, q2, hr2⟩ := HAR.out .mul (.inl rfl) r v10 (w.drewN q)
            go_enter Tryd.func52, Tryd.ntmps52
            go_wp2_with fail
            all_goals
              go_ret2
              first
                | exact ⟨_, _, rfl, fun _ => ⟨H23.out, by omega, by omega⟩, 0, rfl⟩
                | exact ⟨_, _, rfl, fun _ => ⟨H23.out, by omega, by omega⟩, _, rfl⟩
                | exact ⟨_, _, rfl, fun h => absurd h (by decide), 0, rfl⟩
                | exact ⟨_, _, rfl, fun h => absurd h (by decide), _, rfl⟩
        · have h10d : decide (10 < p) = false := decide_eq_false h10
          obtain ⟨j, rfl⟩ := Int.eq_ofNat_of_zero_le (show 0 ≤ p by omega)
          obtain ⟨v, hv⟩ := HT.out j (by omega)
          have hj11 : (j : Int) < 11 := by omega
          cases neg with
          | true =>
            obtain ⟨r, q, hr⟩ := HAR.out .mul (.inl rfl) (Op.negFloat .f32 (floatOfInt .f32 d)) v w
            go_enter Tryd.func52, Tryd.ntmps52
            go_wp2_with fail
            all_goals
              go_ret2
              first
                | exact ⟨_, _, rfl, fun _ => ⟨H23.out, by omega, by omega⟩, 0, rfl⟩
                | exact ⟨_, _, rfl, fun _ => ⟨H23.out, by omega, by omega⟩, _, rfl⟩
                | exact ⟨_, _, rfl, fun h => absurd h (by decide), 0, rfl⟩
                | exact ⟨_, _, rfl, fun h => absurd h (by decide), _, rfl⟩
          | false =>
            obtain ⟨r, q, hr⟩ := HAR.out .mul (.inl rfl) (floatOfInt .f32 d) v w
            go_enter Tryd.func52, Tryd.ntmps52
            go_wp2_with fail
            all_goals
              go_ret2
              first
                | exact ⟨_, _, rfl, fun _ => ⟨H23.out, by omega, by omega⟩, 0, rfl⟩
                | exact ⟨_, _, rfl, fun _ => ⟨H23.out, by omega, by omega⟩, _, rfl⟩
                | exact ⟨_, _, rfl, fun h => absurd h (by decide), 0, rfl⟩
                | exact ⟨_, _, rfl, fun h => absurd h (by decide), _, rfl⟩
      · have h17d : decide (p ≤ 17) = false := decide_eq_false h17
        have hn : decide (p < 0) = false := decide_eq_false (by omega)
        cases neg with
        | true =>
          go_enter Tryd.func52, Tryd.ntmps52
          go_wp2_with fail
          all_goals
            go_ret2
            first
              | exact ⟨_, _, rfl, fun _ => ⟨H23.out, by omega, by omega⟩, 0, rfl⟩
              | exact ⟨_, _, rfl, fun _ => ⟨H23.out, by omega, by omega⟩, _, rfl⟩
              | exact ⟨_, _, rfl, fun h => absurd h (by decide), 0, rfl⟩
              | exact ⟨_, _, rfl, fun h => absurd h (by decide), _, rfl⟩
        | false =>
          go_enter Tryd.func52, Tryd.ntmps52
          go_wp2_with fail
          all_goals
            go_ret2
            first
              | exact ⟨_, _, rfl, fun _ => ⟨H23.out, by omega, by omega⟩, 0, rfl⟩
              | exact ⟨_, _, rfl, fun _ => ⟨H23.out, by omega, by omega⟩, _, rfl⟩
              | exact ⟨_, _, rfl, fun h => absurd h (by decide), 0, rfl⟩
              | exact ⟨_, _, rfl, fun h => absurd h (by decide), _, rfl⟩
    · have hposd : decide (0 < p) = false := decide_eq_false hpos
      have hn : decide (p < 0) = true := decide_eq_true (by omega)
      by_cases h10 : -10 ≤ p
      · have h10d : decide (-10 ≤ p) = true := decide_eq_true h10
        obtain ⟨j, hj⟩ : ∃ j : Nat, p = -(j : Int) := ⟨(-p).toNat, by omega⟩
        subst hj
        obtain ⟨v, hv⟩ := HT.out j (by omega)
        have hj11 : (j : Int) < 11 := by omega
        cases neg with
        | true =>
          obtain ⟨r, q, hr⟩ := HAR.out .quo (.inr rfl) (Op.negFloat .f32 (floatOfInt .f32 d)) v w
          go_enter Tryd.func52, Tryd.ntmps52
          go_wp2_with fail
          all_goals
            go_ret2
            first
              | exact ⟨_, _, rfl, fun _ => ⟨H23.out, by omega, by omega⟩, 0, rfl⟩
              | exact ⟨_, _, rfl, fun _ => ⟨H23.out, by omega, by omega⟩, _, rfl⟩
              | exact ⟨_, _, rfl, fun h => absurd h (by decide), 0, rfl⟩
              | exact ⟨_, _, rfl, fun h => absurd h (by decide), _, rfl⟩
        | false =>
          obtain ⟨r, q, hr⟩ := HAR.out .quo (.inr rfl) (floatOfInt .f32 d) v w
          go_enter Tryd.func52, Tryd.ntmps52
          go_wp2_with fail
          all_goals
            go_ret2
            first
              | exact ⟨_, _, rfl, fun _ => ⟨H23.out, by omega, by omega⟩, 0, rfl⟩
              | exact ⟨_, _, rfl, fun _ => ⟨H23.out, by omega, by omega⟩, _, rfl⟩
              | exact ⟨_, _, rfl, fun h => absurd h (by decide), 0, rfl⟩
              | exact ⟨_, _, rfl, fun h => absurd h (by decide), _, rfl⟩
      · have h10d : decide (-10 ≤ p) = false := decide_eq_false h10
        cases neg with
        | true =>
          go_enter Tryd.func52, Tryd.ntmps52
          go_wp2_with fail
          all_goals
            go_ret2
            first
              | exact ⟨_, _, rfl, fun _ => ⟨H23.out, by omega, by omega⟩, 0, rfl⟩
              | exact ⟨_, _, rfl, fun _ => ⟨H23.out, by omega, by omega⟩, _, rfl⟩
              | exact ⟨_, _, rfl, fun h => absurd h (by decide), 0, rfl⟩
              | exact ⟨_, _, rfl, fun h => absurd h (by decide), _, rfl⟩
        | false =>
          go_enter Tryd.func52, Tryd.ntmps52
          go_wp2_with fail
          all_goals
            go_ret2
            first
              | exact ⟨_, _, rfl, fun _ => ⟨H23.out, by omega, by omega⟩, 0, rfl⟩
              | exact ⟨_, _, rfl, fun _ => ⟨H23.out, by omega, by omega⟩, _, rfl⟩
              | exact ⟨_, _, rfl, fun h => absurd h (by decide), 0, rfl⟩
              | exact ⟨_, _, rfl, fun h => absurd h (by decide), _, rfl⟩
  · obtain ⟨g, hg⟩ : ∃ g : Nat, (d : Int) / 8388608 = (g : Int) := ⟨d / 8388608, by omega⟩
    have hg1 : ((g : Int) != 0) = true := by simp; omega
    have hg2 : g < 18446744073709551616 := by omega
    go_enter Tryd.func52, Tryd.ntmps52
    go_wp2_with fail
    go_ret2
    exact ⟨_, _, rfl, fun h => absurd h (by decide), 0, rfl⟩
end Go.Proofs.YtiebedcldbmlhaaDoor.Fl
