/-
  What a constraint answers at a value, as the parser keeps it and as impl.Fulfils makes it. Conditions: of a size that addresses allow; a length from 0 to 1000.
-/
import Derived.Test.YtiebedcldbmlhaaGreatDoorCI
import Derived.Test.YtiebedcldbmlhaaGreatDoorCB
import Derived.Test.YtiebedcldbmlhaaGreatDoorCC
import Derived.Test.YtiebedcldbmlhaaGreatDoorCD
import Derived.Test.YtiebedcldbmlhaaGreatDoorAA
import Derived.Lib.AtoiAll
import Derived.Lib.AtoiAllCases
import Derived.Lib.ItoaNum
namespace Go.Proofs.YtiebedcldbmlhaaGreatDoor
open Go.RowKit
open Go.Lib (parseUint10 decDigits atoiAll parseMag signless atoiAll_plain)
set_option linter.unusedVariables false

theorem encode_digit_fin : ∀ i : Fin 10, Utf8.encode ((48 : Int) + (i.val : Int)) = bs [UInt8.ofNat (48 + i.val)] := by decide +kernel
theorem encode_digit (n : Int) (h0 : 0 ≤ n) (h1 : n < 10) : Utf8.encode (48 + n) = bs [UInt8.ofNat (48 + n.toNat)] := by
  obtain ⟨k, rfl⟩ := Int.eq_ofNat_of_zero_le h0
  exact encode_digit_fin ⟨k, by omega⟩

set_option maxHeartbeats 400000 in
theorem digits_small (n : Int) (w : World) (h0 : 0 ≤ n) (h1 : n < 10) :
    Calls Tryz.prog 25 #[.int .i64 n] w fun e w' => e = .returned (.string (bs (Lib.decDigits n.toNat))) ∧ w = w' := by
  have H := Lib.hid (encode_digit n h0 h1)
  go_enter Tryz.func25, Tryz.ntmps25
  go_wp2
  go_ret
  exact ⟨ret_str (by rw [H.out, Lib.decDigits_one (by omega)]), rfl⟩

theorem nDigits_leC : ∀ (k u : Nat), u < 10 ^ (k + 1) → Lib.nDigits u ≤ k + 1
  | 0, u, h => by rw [Lib.nDigits, dif_pos (by omega)]; exact Nat.le_refl _
  | k + 1, u, h => by
    by_cases h1 : u < 10
    · rw [Lib.nDigits, dif_pos h1]; omega
    · rw [Lib.nDigits, dif_neg h1]
      have := nDigits_leC k (u / 10) (by rw [Nat.pow_succ] at h; omega)
      omega
theorem decDigits_size (u : Nat) (h : u < 4611686018427387904) : (bs (Lib.decDigits u)).size ≤ 100 := by
  have e : (bs (Lib.decDigits u)).size = (Lib.decDigits u).length := rfl
  rw [e, Lib.decDigits_length]
  have := nDigits_leC 18 u (by omega)
  omega
theorem decDigits_step (u : Nat) (h : ¬ u < 10) : Lib.decDigits u = Lib.decDigits (u / 10) ++ [UInt8.ofNat (48 + u % 10)] := by
  rw [Lib.decDigits, dif_neg h]

set_option maxHeartbeats 400000 in
theorem digits_any : ∀ (m : Nat) (n : Int) (w : World), 0 ≤ n → n < 4611686018427387904 → n.toNat ≤ m →
    Calls Tryz.prog 25 #[.int .i64 n] w fun e w' => e = .returned (.string (bs (Lib.decDigits n.toNat))) ∧ w = w' := by
  intro m
  induction m with
  | zero => intro n w h0 h1 hm; exact digits_small n w h0 (by omega)
  | succ m ih =>
    intro n w h0 h1 hm
    by_cases h : n < 10
    · exact digits_small n w h0 h
    have IH := Lib.hid ih
    clear ih
    have hq : 0 ≤ n / 10 := by omega
    have H := Lib.hid (encode_digit (n % 10) (by omega) (by omega))
    have hr0 : 0 ≤ n % 10 := by omega
    have hr1 : n % 10 < 10 := by omega
    go_enter Tryz.func25, Tryz.ntmps25
    go_wp2_with fail
    refine (IH.out (n / 10) w (by omega) (by omega) (by omega)).mono ?_
    rintro e w' ⟨rfl, rfl⟩
    have s1 : (bs (Lib.decDigits (n / 10).toNat)).size ≤ 100 := decDigits_size _ (by omega)
    have s2 : (Utf8.encode (48 + n % 10)).size ≤ 4 := by rw [H.out]; exact Nat.le_of_ble_eq_true rfl
    go_wp2
    go_ret
    exact ⟨ret_str (by rw [H.out, bs_append, decDigits_step n.toNat (by omega), show (n / 10).toNat = n.toNat / 10 by omega, show (n % 10).toNat = n.toNat % 10 by omega]), rfl⟩
theorem parse_snoc (c : UInt8) : ∀ (l : List UInt8) (acc : Nat), parseUint10 acc (l ++ [c]) = (match parseUint10 acc l with | .ok v => parseUint10 v [c] | x => x)
  | [], acc => by
    rw [List.nil_append, show parseUint10 acc [] = .ok acc from rfl]
  | d :: l, acc => by
    have ih := parse_snoc c l
    simp only [List.cons_append, parseUint10]
    split
    · split
      · rfl
      · split
        · rfl
        · rw [ih]; cases parseUint10 (acc * 10 + (d.toNat - 48)) l <;> simp only [parseUint10]
    · rfl

theorem digit_toNat (k : Nat) (h : k < 10) : (UInt8.ofNat (48 + k)).toNat = 48 + k := by
  simp [UInt8.toNat_ofNat']; omega

theorem parse_oneC (v k : Nat) (hk : k < 10) (hv : v * 10 + k < 1844674407370955162) : parseUint10 v [UInt8.ofNat (48 + k)] = .ok (v * 10 + k) := by
  simp only [parseUint10, digit_toNat k hk]
  rw [if_pos (by omega), if_neg (by omega), if_neg (by omega)]
  congr 1
  omega

theorem parse_digits : ∀ (m u : Nat), u ≤ m → u < 1844674407370955162 → parseUint10 0 (decDigits u) = .ok u
  | m, u, hm, hu => by
    by_cases h : u < 10
    · rw [Lib.decDigits_one h, parse_oneC 0 u h (by omega)]; simp
    · cases m with
      | zero => omega
      | succ m =>
        rw [decDigits, dif_neg h, parse_snoc, parse_digits m (u / 10) (by omega) (by omega)]
        simp only
        rw [parse_oneC _ _ (by omega) (by omega)]
        congr 1
        omega

theorem decDigits_head (u : Nat) : ∃ k r, decDigits u = UInt8.ofNat (48 + k) :: r ∧ k < 10 := by
  induction u using Nat.strongRecOn with
  | ind u ih =>
    by_cases h : u < 10
    · exact ⟨u, [], Lib.decDigits_one h, h⟩
    · obtain ⟨k, r, hk, hl⟩ := ih (u / 10) (by omega)
      exact ⟨k, r ++ [UInt8.ofNat (48 + u % 10)], by rw [decDigits, dif_neg h, hk]; rfl, hl⟩

theorem atoi_digits (u : Nat) (hu : u < 1844674407370955162) : atoiAll (decDigits u) = .ok (u : Int) := by
  obtain ⟨k, r, hk, hl⟩ := decDigits_head u
  have hp : parseMag (decDigits u) = .ok u := by
    unfold parseMag
    rw [if_neg (by rw [hk]; simp)]
    exact parse_digits u u (Nat.le_refl _) hu
  rw [hk] at hp ⊢
  rw [atoiAll_plain _ _ (by rw [digit_toNat k hl]; omega) (by rw [digit_toNat k hl]; omega), hp]
  simp only [signless]
  rw [if_neg (by omega)]

theorem dec_bytes : ∀ (m u : Nat), u ≤ m → ∀ x ∈ decDigits u, wordB x = true
  | m, u, hm, x, hx => by
    have one : ∀ k, k < 10 → wordB (UInt8.ofNat (48 + k)) = true := fun k hk => by
      have h : ∀ i : Fin 10, wordB (UInt8.ofNat (48 + i.val)) = true := by decide
      exact h ⟨k, hk⟩
    by_cases h : u < 10
    · rw [Lib.decDigits_one h] at hx
      rw [List.mem_singleton.1 hx]
      exact one u h
    · cases m with
      | zero => omega
      | succ m =>
        rw [decDigits_step u h] at hx
        rcases List.mem_append.1 hx with hx | hx
        · exact dec_bytes m (u / 10) (by omega) x hx
        · rw [List.mem_singleton.1 hx]
          exact one (u % 10) (by omega)
theorem atoiVal_dec (u : Nat) (hu : u ≤ 1000) : atoiVal (decDigits u) = u := by
  unfold atoiVal
  rw [atoi_digits u (by omega)]

theorem strcells_one {w : World} {b : Nat} {s : ByteArray} (hc : w.cell? ⟨b, 0, none⟩ = some (.string s)) : StrCells w b 0 [s] := by
  intro i hi
  match i, hi with
  | 0, _ => exact hc
/-- What the constraints answer. -/
def ansK (kind : Nat) (n : Int) (v : ByteArray) : Bool :=
  if kind = 2 then atoiOk v.data.toList
  else if kind = 3 then (Lib.parseBool v.data.toList).isSome
  else if kind = 5 then lettersGo v v.size 0
  else if kind = 8 then decide (n ≤ (v.size : Int))
  else if kind = 9 then decide ((v.size : Int) ≤ n)
  else decide ((v.size : Int) = n)

theorem ok2 (v : ByteArray) (hv : v.size ≤ 140737488351232) : CheckOK ⟨2, []⟩ v (ansK 2 0 v) := fun kc base dd wx hE hk ho => check2 kc 0 dd v wx hE hv (obj_cell (i := 0) hk rfl)
theorem ok3 (v : ByteArray) (hv : v.size ≤ 140737488351232) : CheckOK ⟨3, []⟩ v (ansK 3 0 v) := fun kc base dd wx hE hk ho => check3 kc 0 v wx hE hv (obj_cell (i := 0) hk rfl)
theorem ok5 (v : ByteArray) (hv : v.size ≤ 140737488351232) : CheckOK ⟨5, []⟩ v (ansK 5 0 v) := fun kc base dd wx hE hk ho => check5 kc 0 v wx hE hv (obj_cell (i := 0) hk rfl)
theorem ok8 (v : ByteArray) (n : Nat) (hn : n ≤ 1000) (hv : v.size ≤ 140737488351232) : CheckOK ⟨8, [decDigits n]⟩ v (ansK 8 n v) := fun kc base dd wx hE hk ho => by
  obtain ⟨b, cap, rfl, _, _, hcell⟩ := own_some ho (by simp)
  have := check8 kc 0 b 0 cap 1 v (bs (decDigits n)) (bs (decDigits n)) wx hE hv (by have := decDigits_size n (by omega); omega) (by have := decDigits_size n (by omega); omega) (Nat.le_refl _) (obj_cell (i := 0) hk rfl) (obj_cell (i := 1) hk rfl) (hcell 0 _ rfl)
  rw [show (bs (decDigits n)).data.toList = decDigits n from rfl, atoiVal_dec n hn] at this
  exact this
theorem ok9 (v : ByteArray) (n : Nat) (hn : n ≤ 1000) (hv : v.size ≤ 140737488351232) : CheckOK ⟨9, [decDigits n]⟩ v (ansK 9 n v) := fun kc base dd wx hE hk ho => by
  obtain ⟨b, cap, rfl, _, _, hcell⟩ := own_some ho (by simp)
  have := check9 kc 0 b 0 cap 1 v (bs (decDigits n)) (bs (decDigits n)) wx hE hv (by have := decDigits_size n (by omega); omega) (by have := decDigits_size n (by omega); omega) (Nat.le_refl _) (obj_cell (i := 0) hk rfl) (obj_cell (i := 1) hk rfl) (hcell 0 _ rfl)
  rw [show (bs (decDigits n)).data.toList = decDigits n from rfl, atoiVal_dec n hn] at this
  exact this
theorem ok10 (v : ByteArray) (n : Nat) (hn : n ≤ 1000) (hv : v.size ≤ 140737488351232) : CheckOK ⟨10, [decDigits n]⟩ v (ansK 10 n v) := fun kc base dd wx hE hk ho => by
  obtain ⟨b, cap, rfl, _, _, hcell⟩ := own_some ho (by simp)
  have := check10 kc 0 b 0 cap 1 v (bs (decDigits n)) (bs (decDigits n)) wx hE hv (by have := decDigits_size n (by omega); omega) (by have := decDigits_size n (by omega); omega) (Nat.le_refl _) (obj_cell (i := 0) hk rfl) (obj_cell (i := 1) hk rfl) (hcell 0 _ rfl)
  rw [show (bs (decDigits n)).data.toList = decDigits n from rfl, atoiVal_dec n hn] at this
  exact this

theorem ful2 (v : ByteArray) (w : World) (hE : EnvC w) (hv : v.size ≤ 140737488351232) : Calls Tryz.prog 26 #[.agg #[.int .i64 2, .slice none 0 0], .string v] w fun e w' => e = .returned (.bool (ansK 2 0 v)) ∧ Below w.heap.size w w' :=
  fulfils_nil 2 v w hE (by decide) (by decide) _ fun p w' hb hc => check2 p 0 (.bool false) v w' (hE.below hb) hv hc
theorem ful3 (v : ByteArray) (w : World) (hE : EnvC w) (hv : v.size ≤ 140737488351232) : Calls Tryz.prog 26 #[.agg #[.int .i64 3, .slice none 0 0], .string v] w fun e w' => e = .returned (.bool (ansK 3 0 v)) ∧ Below w.heap.size w w' :=
  fulfils_nil 3 v w hE (by decide) (by decide) _ fun p w' hb hc => check3 p 0 v w' (hE.below hb) hv hc
theorem ful5 (v : ByteArray) (w : World) (hE : EnvC w) (hv : v.size ≤ 140737488351232) : Calls Tryz.prog 26 #[.agg #[.int .i64 5, .slice none 0 0], .string v] w fun e w' => e = .returned (.bool (ansK 5 0 v)) ∧ Below w.heap.size w w' :=
  fulfils_nil 5 v w hE (by decide) (by decide) _ fun p w' hb hc => check5 p 0 v w' (hE.below hb) hv hc
theorem ful8 (b : Nat) (v : ByteArray) (n : Nat) (hn : n ≤ 1000) (w : World) (hE : EnvC w) (hv : v.size ≤ 140737488351232) (hc : w.cell? ⟨b, 0, none⟩ = some (.string (bs (decDigits n)))) : Calls Tryz.prog 26 #[.agg #[.int .i64 8, .slice (some ⟨b, 0, none⟩) 1 1], .string v] w fun e w' => e = .returned (.bool (ansK 8 n v)) ∧ Below w.heap.size w w' :=
  fulfils_some 8 b 0 1 1 v [bs (decDigits n)] w hE (by decide) (by decide) (Nat.le_refl _) rfl (by decide) (strcells_one hc) _ fun p g cap' w' hb h0 h1 h2 => by
    have := check8 p 0 g 0 cap' 1 v (bs (decDigits n)) (bs (decDigits n)) w' (hE.below hb) hv (by have := decDigits_size n (by omega); omega) (by have := decDigits_size n (by omega); omega) (Nat.le_refl _) h0 h1 (h2 0 (by simp))
    rw [show (bs (decDigits n)).data.toList = decDigits n from rfl, atoiVal_dec n hn] at this
    exact this
theorem ful9 (b : Nat) (v : ByteArray) (n : Nat) (hn : n ≤ 1000) (w : World) (hE : EnvC w) (hv : v.size ≤ 140737488351232) (hc : w.cell? ⟨b, 0, none⟩ = some (.string (bs (decDigits n)))) : Calls Tryz.prog 26 #[.agg #[.int .i64 9, .slice (some ⟨b, 0, none⟩) 1 1], .string v] w fun e w' => e = .returned (.bool (ansK 9 n v)) ∧ Below w.heap.size w w' :=
  fulfils_some 9 b 0 1 1 v [bs (decDigits n)] w hE (by decide) (by decide) (Nat.le_refl _) rfl (by decide) (strcells_one hc) _ fun p g cap' w' hb h0 h1 h2 => by
    have := check9 p 0 g 0 cap' 1 v (bs (decDigits n)) (bs (decDigits n)) w' (hE.below hb) hv (by have := decDigits_size n (by omega); omega) (by have := decDigits_size n (by omega); omega) (Nat.le_refl _) h0 h1 (h2 0 (by simp))
    rw [show (bs (decDigits n)).data.toList = decDigits n from rfl, atoiVal_dec n hn] at this
    exact this
theorem ful10 (b : Nat) (v : ByteArray) (n : Nat) (hn : n ≤ 1000) (w : World) (hE : EnvC w) (hv : v.size ≤ 140737488351232) (hc : w.cell? ⟨b, 0, none⟩ = some (.string (bs (decDigits n)))) : Calls Tryz.prog 26 #[.agg #[.int .i64 10, .slice (some ⟨b, 0, none⟩) 1 1], .string v] w fun e w' => e = .returned (.bool (ansK 10 n v)) ∧ Below w.heap.size w w' :=
  fulfils_some 10 b 0 1 1 v [bs (decDigits n)] w hE (by decide) (by decide) (Nat.le_refl _) rfl (by decide) (strcells_one hc) _ fun p g cap' w' hb h0 h1 h2 => by
    have := check10 p 0 g 0 cap' 1 v (bs (decDigits n)) (bs (decDigits n)) w' (hE.below hb) hv (by have := decDigits_size n (by omega); omega) (by have := decDigits_size n (by omega); omega) (Nat.le_refl _) h0 h1 (h2 0 (by simp))
    rw [show (bs (decDigits n)).data.toList = decDigits n from rfl, atoiVal_dec n hn] at this
    exact this
end Go.Proofs.YtiebedcldbmlhaaGreatDoor
