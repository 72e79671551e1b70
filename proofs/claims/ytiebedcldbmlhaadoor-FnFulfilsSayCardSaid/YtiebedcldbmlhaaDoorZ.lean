/-
  The thin function Fulfils hands a constraint with an empty list of data on; whole against Atoi. Conditions: none of note.
-/
import Derived.Test.YtiebedcldbmlhaaDoorY
namespace Go.Proofs.YtiebedcldbmlhaaDoor
open Go.RowKit
open Fl (ns signOf isD ns_drop ns_len ns_end ns_lt ns_tail up)
set_option linter.unusedVariables false

set_option maxHeartbeats 1000000 in
set_option maxRecDepth 100000 in
theorem fulfils_empty (kind : Int) (A : Addr) (cap : Nat) (s : ByteArray) (w : World) (hE : Env w) (hk1 : 1 ≤ kind) (hk2 : kind ≤ 15) (X : Bool)
    (hX : ∀ (p : Nat) (w' : World), Below w.heap.size w w' → w'.cell? ⟨p, 0, none⟩ = some (.int .i16 kind) →
      Calls Tryd.prog 11 #[.pointer (some ⟨p, 0, none⟩), .string s] w' fun e w'' => e = .returned (.bool X) ∧ Below w'.heap.size w' w'') :
    Calls Tryd.prog 6 #[.agg #[.int .i64 kind, .slice (some A) 0 cap], .string s] w fun e w' => e = .returned (.bool X) ∧ Below w.heap.size w w' := by
  have HX := Lib.hid hX
  clear hX
  obtain ⟨i0, hi, hz0, hz1, hz2⟩ := info_parts info9
  have hwr : IntKind.i16.wrap kind = kind := wrap16 kind (by omega) (by omega)
  go_enter Tryd.func6, Tryd.ntmps6
  go_wp2
  go_region_held3 (fun w' => w'.cell? ⟨w.heap.size, 0, none⟩ = some (.int .i64 kind) ∧ w'.cell? ⟨w.heap.size, 1, none⟩ = some (.slice (some A) 0 cap)) (first | (go_keep; done) | (go_split_ands; refine ⟨?_, ?_⟩ <;> (rw [World.cell?_setCell_far _ _ _ _ (by simp; try omega), World.cell?_setCell_far _ _ _ _ (by simp; try omega)]; assumption)))
    (fail)
  all_goals
    go_wp2_with fail
    refine (HX.out _ _ (by repeat (first | exact Below.refl _ _ | refine Below.drew ?_ | refine Below.alloc ?_ (by simp; try omega) _)) (by simp [cell_alloc, objCell])).mono ?_
    rintro e w2 ⟨rfl, hb2⟩
    have HB := Lib.hid (Below.trans (show Below w.heap.size w _ from (by repeat (first | exact Below.refl _ _ | refine Below.drew ?_ | refine Below.alloc ?_ (by simp; try omega) _))) (hb2.mono (by simp; try omega)))
    clear hb2
    go_wp2
    go_ret
    exact ⟨rfl, HB.out⟩
theorem parse_ok_digits : ∀ (l : List UInt8) (a u : Nat), Lib.parseUint10 a l = .ok u → ∀ c ∈ l, 48 ≤ c.toNat ∧ c.toNat ≤ 57
  | [], _, _, _ => fun c hc => by cases hc
  | d :: l, a, u, h => by
    unfold Lib.parseUint10 at h
    split at h
    · rename_i hd
      split at h
      · cases h
      · split at h
        · cases h
        · intro c hc
          rcases List.mem_cons.1 hc with rfl | hc
          · exact hd
          · exact parse_ok_digits l _ u h c hc
    · cases h
theorem parse_run : ∀ (l : List UInt8) (a : Nat), (∀ c ∈ l, 48 ≤ c.toNat ∧ c.toNat ≤ 57) → (a + 1) * 10 ^ l.length ≤ 1000000000000000000 → Lib.parseUint10 a l = .ok (dv a (l.map UInt8.toNat))
  | [], a, _, _ => rfl
  | d :: l, a, h, hb => by
    have hd := h d (List.mem_cons_self ..)
    rw [List.length_cons, Nat.pow_succ] at hb
    have hp : 1 ≤ 10 ^ l.length := Nat.pow_pos (by decide)
    have h10 : (a + 1) * 10 ≤ 1000000000000000000 := by
      refine Nat.le_trans ?_ hb
      rw [Nat.mul_comm (10 ^ l.length) 10, ← Nat.mul_assoc]
      exact Nat.le_mul_of_pos_right _ hp
    unfold Lib.parseUint10
    rw [if_pos hd, if_neg (by omega), if_neg (by omega), List.map_cons, dv_cons, Nat.mul_comm 10 a]
    refine parse_run l _ (fun c hc => h c (List.mem_cons_of_mem _ hc)) ?_
    refine Nat.le_trans ?_ hb
    rw [Nat.mul_comm (10 ^ l.length) 10, ← Nat.mul_assoc]
    exact Nat.mul_le_mul_right _ (by omega)
theorem ns_map (s : ByteArray) : ns s = s.data.toList.map UInt8.toNat := rfl
theorem all_map {l : List UInt8} : (l.map UInt8.toNat).all isD = true ↔ ∀ c ∈ l, 48 ≤ c.toNat ∧ c.toNat ≤ 57 := by
  rw [List.all_map, List.all_eq_true]
  exact ⟨fun h c hc => isD_iff.1 (h c hc), fun h c hc => isD_iff.2 (h c hc)⟩

def wholeT (m : Bool) (t : List Nat) : Int × Int := wTail m t
/-- The numbers of some bytes. -/
theorem mag_one {l : List UInt8} {m : Bool} (h : (wTail m (l.map UInt8.toNat)).2 = 1) : Lib.parseMag l = .ok (dv 0 (l.map UInt8.toNat)) ∧ dv 0 (l.map UInt8.toNat) < 1000000000000000000 ∧ (wTail m (l.map UInt8.toNat)).1 = wNum m (l.map UInt8.toNat) := by
  have hv : (wTail m (l.map UInt8.toNat)).1 = wNum m (l.map UInt8.toNat) ∧ l ≠ [] ∧ (l.map UInt8.toNat).all isD = true ∧ l.length ≤ 18 := by
    unfold wTail at h ⊢
    split at h
    · simp at h
    · rename_i h1
      split at h
      · simp at h
      · rename_i h2
        split at h
        · simp at h
        · rename_i h3
          rw [if_neg h1, if_neg h2, if_neg h3]
          refine ⟨rfl, fun e => h1 (by rw [e]; rfl), by simpa using h2, ?_⟩
          rw [List.length_map] at h3
          omega
  obtain ⟨hv, hne, hal, hlen⟩ := hv
  have hd := all_map.1 hal
  have hb : (0 + 1) * 10 ^ l.length ≤ 1000000000000000000 := by
    have : (0 + 1) * 10 ^ l.length ≤ (0 + 1) * 10 ^ 18 := Nat.mul_le_mul_left _ (Nat.pow_le_pow_right (by decide) hlen)
    exact Nat.le_trans this (by decide)
  refine ⟨?_, ?_, hv⟩
  · unfold Lib.parseMag
    rw [if_neg hne]
    exact parse_run l 0 hd hb
  · have := dv_bound (l.map UInt8.toNat) 0 (all_isD hal)
    rw [List.length_map] at this
    omega
theorem mag_zero {l : List UInt8} {m : Bool} (h : (wTail m (l.map UInt8.toNat)).2 = 0) (u : Nat) : Lib.parseMag l ≠ .ok u := by
  intro hp
  unfold Lib.parseMag at hp
  split at hp
  · cases hp
  · rename_i hne
    have hd := all_map.2 (parse_ok_digits l 0 u hp)
    unfold wTail at h
    rw [if_neg (fun e => hne (List.map_eq_nil_iff.1 e)), if_neg (by rw [hd]; decide)] at h
    split at h <;> simp at h
theorem wholeN_tail (l : List Nat) : wholeN l = wTail (signOf l).1 (signOf l).2 := rfl
theorem sign_plain {c : UInt8} {r : List UInt8} (h1 : c.toNat ≠ 43) (h2 : c.toNat ≠ 45) : signOf ((c :: r).map UInt8.toNat) = (false, (c :: r).map UInt8.toNat) := by
  rw [List.map_cons]
  unfold signOf
  simp only
  rw [if_neg h1, if_neg h2]
theorem atoi_one {l : List UInt8} (h : (wholeN (l.map UInt8.toNat)).2 = 1) : Lib.atoiAll l = .ok (wholeN (l.map UInt8.toNat)).1 := by
  cases l with
  | nil => exact absurd h (by decide)
  | cons c r =>
    by_cases h1 : c.toNat = 43
    · have hc : c = 43 := UInt8.toNat_inj.1 h1
      subst hc
      have e : wholeN ((43 :: r).map UInt8.toNat) = wTail false (r.map UInt8.toNat) := rfl
      rw [e] at h ⊢
      obtain ⟨p1, p2, p3⟩ := mag_one h
      rw [Lib.atoiAll_plus, p1, p3]
      unfold Lib.signless wNum
      simp only
      rw [if_neg (by omega)]
      rfl
    · by_cases h2 : c.toNat = 45
      · have hc : c = 45 := UInt8.toNat_inj.1 h2
        subst hc
        have e : wholeN ((45 :: r).map UInt8.toNat) = wTail true (r.map UInt8.toNat) := rfl
        rw [e] at h ⊢
        obtain ⟨p1, p2, p3⟩ := mag_one h
        rw [Lib.atoiAll_minus, p1, p3]
        unfold Lib.signed wNum
        simp only
        rw [if_neg (by omega)]
        rfl
      · have e : wholeN ((c :: r).map UInt8.toNat) = wTail false ((c :: r).map UInt8.toNat) := by rw [wholeN_tail, sign_plain h1 h2]
        rw [e] at h ⊢
        obtain ⟨p1, p2, p3⟩ := mag_one h
        rw [Lib.atoiAll_plain _ _ h1 h2, p1, p3]
        unfold Lib.signless wNum
        simp only
        rw [if_neg (by omega)]
        rfl
theorem atoi_zero {l : List UInt8} (h : (wholeN (l.map UInt8.toNat)).2 = 0) : atoiOk l = false := by
  unfold atoiOk
  split
  · rename_i v hv
    exfalso
    cases l with
    | nil => simp [Lib.atoiAll] at hv
    | cons c r =>
      by_cases h1 : c.toNat = 43
      · have hc : c = 43 := UInt8.toNat_inj.1 h1
        subst hc
        have e : wholeN ((43 :: r).map UInt8.toNat) = wTail false (r.map UInt8.toNat) := rfl
        rw [e] at h
        rw [Lib.atoiAll_plus] at hv
        rcases hp : Lib.parseMag r with u | _ | _
        · exact mag_zero h u hp
        · rw [hp] at hv; simp [Lib.signless] at hv
        · rw [hp] at hv; simp [Lib.signless] at hv
      · by_cases h2 : c.toNat = 45
        · have hc : c = 45 := UInt8.toNat_inj.1 h2
          subst hc
          have e : wholeN ((45 :: r).map UInt8.toNat) = wTail true (r.map UInt8.toNat) := rfl
          rw [e] at h
          rw [Lib.atoiAll_minus] at hv
          rcases hp : Lib.parseMag r with u | _ | _
          · exact mag_zero h u hp
          · rw [hp] at hv; simp [Lib.signed] at hv
          · rw [hp] at hv; simp [Lib.signed] at hv
        · have e : wholeN ((c :: r).map UInt8.toNat) = wTail false ((c :: r).map UInt8.toNat) := by rw [wholeN_tail, sign_plain h1 h2]
          rw [e] at h
          rw [Lib.atoiAll_plain _ _ h1 h2] at hv
          rcases hp : Lib.parseMag (c :: r) with u | _ | _
          · exact mag_zero h u hp
          · rw [hp] at hv; simp [Lib.signless] at hv
          · rw [hp] at hv; simp [Lib.signless] at hv
  · rfl
theorem one_val {s : ByteArray} (h : wsay s = 1) : atoiVal s.data.toList = wv s ∧ atoiOk s.data.toList = true := by
  have := atoi_one (l := s.data.toList) h
  unfold atoiVal atoiOk
  rw [this]
  exact ⟨rfl, rfl⟩
theorem zero_val {s : ByteArray} (h : wsay s = 0) : atoiOk s.data.toList = false := atoi_zero (l := s.data.toList) h
theorem wsay_cases (s : ByteArray) : wsay s = 0 ∨ wsay s = 1 ∨ wsay s = 2 := by
  unfold wsay wholeN
  split
  · exact .inl rfl
  · split
    · exact .inl rfl
    · split
      · exact .inr (.inr rfl)
      · exact .inr (.inl rfl)
end Go.Proofs.YtiebedcldbmlhaaDoor
