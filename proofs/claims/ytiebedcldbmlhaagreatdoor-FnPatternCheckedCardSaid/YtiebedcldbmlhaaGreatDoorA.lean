/-
  Small laws on the parser's functions, on bytes and worlds, of whatever text. Conditions: each law's own.
-/
import Derived.Test.YtiebedcldbmlhaaGreatDoorM
import Derived.Test.YtiebedcldbmlhaaGreatDoorShelf
import Derived.WalkKit
import Derived.Lib.Hide
import Derived.Outline
import Derived.Deep.DeepFit
import Derived.WalkSpells
import Derived.WalkLawsBesides
namespace Go.Proofs.YtiebedcldbmlhaaGreatDoor
open Go.RowKit
set_option linter.unusedVariables false

abbrev bs (l : List UInt8) : ByteArray := ⟨l.toArray⟩
theorem bs_data (l : List UInt8) : (bs l).data.toList = l := by simp
theorem bs_of (s : ByteArray) : bs s.data.toList = s := by apply ByteArray.ext; simp
theorem bs_append (a b : List UInt8) : bs a ++ bs b = bs (a ++ b) := by
  apply ByteArray.ext
  simp
theorem bs_size (l : List UInt8) : (bs l).size = l.length := rfl

theorem ret_str {a b : ByteArray} (h : a = b) : Ending.returned (.string a) = .returned (.string b) := by rw [h]
theorem ret_int {k : IntKind} {a b : Int} (h : a = b) : Ending.returned (.int k a) = .returned (.int k b) := by rw [h]
theorem ret_bool {a b : Bool} (h : a = b) : Ending.returned (.bool a) = .returned (.bool b) := by rw [h]

theorem cell_lt {w : World} {a : Addr} {v : Value} (h : w.cell? a = some v) : a.block < w.heap.size := by
  unfold World.cell? at h
  split at h
  · rename_i hh
    exact (Array.getElem?_eq_some_iff.1 hh).1
  · cases h

/-- The cells of a list of bytes. -/
def ByteCells (w : World) (b off : Nat) (cs : Bs) : Prop := ∀ i, i < cs.length → w.cell? ⟨b, off + i, none⟩ = some (.int .u8 ((cs.getD i 0).toNat : Int))

theorem ByteCells.below {B : Nat} {w w' : World} {b off : Nat} {cs : Bs} (h : ByteCells w b off cs) (hb : Below B w w') (hB : b < B) : ByteCells w' b off cs :=
  fun i hi => (hb.cell (p := ⟨b, off + i, none⟩) hB).trans (h i hi)

theorem indexByte_fb (s : Bs) (c : UInt8) : Lib.indexByte s c = oi (fb s c) := by
  unfold fb
  induction s with
  | nil => rfl
  | cons b l ih =>
    rw [Lib.indexByte, List.findIdx?_cons, ih]
    cases hb : b == c with
    | true => simp [oi]
    | false =>
      cases hf : l.findIdx? (· == c) with
      | none => simp [oi]
      | some n =>
        have : ((n : Int) == -1) = false := by rw [beq_eq_false_iff_ne]; omega
        simp [oi, this]

/-- One more byte of a set: the nearer place. -/
def stp (x y : Int) : Int := if y ≠ -1 ∧ (y < x ∨ x = -1) then y else x
theorem stp_take {x y : Int} (h : y ≠ -1 ∧ (y < x ∨ x = -1)) : stp x y = y := if_pos h
theorem stp_keep {x y : Int} (h : ¬ (y ≠ -1 ∧ (y < x ∨ x = -1))) : stp x y = x := if_neg h
theorem stp_none_left (y : Int) : stp (-1) y = y := by
  by_cases h : y = -1
  · subst h; exact stp_keep (by omega)
  · exact stp_take ⟨h, .inr rfl⟩
theorem stp_none_right (x : Int) : stp x (-1) = x := stp_keep (by omega)
theorem oi_none : oi none = -1 := rfl
theorem oi_some (n : Nat) : oi (some n) = (n : Int) := rfl

theorem stp_map (a c : Option Nat) (d : Option Nat) (h : oi d = stp (oi a) (oi c)) : oi (d.map (· + 1)) = stp (oi (a.map (· + 1))) (oi (c.map (· + 1))) := by
  cases a with
  | none =>
    rw [oi_none, stp_none_left] at h
    rw [Option.map_none, oi_none, stp_none_left]
    cases c <;> cases d <;> simp [oi] at h ⊢ <;> omega
  | some a =>
    cases c with
    | none =>
      rw [oi_none, stp_none_right] at h
      rw [Option.map_none, oi_none, stp_none_right]
      cases d <;> simp [oi] at h ⊢ <;> omega
    | some c =>
      rw [Option.map_some, Option.map_some, oi_some, oi_some]
      rw [oi_some, oi_some] at h
      by_cases hc : c < a
      · rw [stp_take ⟨by omega, .inl (by omega)⟩] at h ⊢
        cases d <;> simp [oi] at h ⊢ <;> omega
      · rw [stp_keep (by omega)] at h ⊢
        cases d <;> simp [oi] at h ⊢ <;> omega

theorem findIdx_or (p q : UInt8 → Bool) (s : Bs) : oi (s.findIdx? fun b => p b || q b) = stp (oi (s.findIdx? p)) (oi (s.findIdx? q)) := by
  induction s with
  | nil => rfl
  | cons b l ih =>
    rw [List.findIdx?_cons, List.findIdx?_cons, List.findIdx?_cons]
    cases hp : p b <;> cases hq : q b
    · simp only [Bool.or_self, Bool.false_eq_true, if_false]
      exact stp_map _ _ _ ih
    · simp only [Bool.or_true, if_true, Bool.false_eq_true, if_false]
      cases h1 : l.findIdx? p with
      | none => rfl
      | some n => rw [Option.map_some, oi_some, oi_some, stp_take ⟨by omega, .inl (by omega)⟩]
    · simp only [Bool.or_false, if_true, Bool.false_eq_true, if_false]
      cases h1 : l.findIdx? q with
      | none => rfl
      | some n => rw [Option.map_some, oi_some, oi_some, stp_keep (by omega)]
    · rfl

theorem nextCS_step (s cs : Bs) (k : Nat) (hk : k < cs.length) : oi (nextCS s (cs.take (k + 1))) = stp (oi (nextCS s (cs.take k))) (oi (fb s (cs.getD k 0))) := by
  have e : cs.getD k 0 = cs[k] := by simp [List.getD, hk]
  rw [e]
  have := findIdx_or (fun b => (cs.take k).contains b) (fun b => b == cs[k]) s
  unfold nextCS fb
  rw [← this]
  congr 2
  funext b
  rw [List.take_succ_eq_append_getElem hk, Bool.eq_iff_iff]
  simp only [List.contains_iff_mem, List.mem_append, List.mem_singleton, Bool.or_eq_true, beq_iff_eq]

theorem oi_ge (x : Option Nat) : -1 ≤ oi x := by cases x <;> simp [oi] <;> omega
theorem findIdx_lt {p : UInt8 → Bool} {s : Bs} {n : Nat} (h : s.findIdx? p = some n) : n < s.length := by
  obtain ⟨h1, _⟩ := List.findIdx?_eq_some_iff_getElem.1 h
  exact h1
theorem oi_findIdx_lt (p : UInt8 → Bool) (s : Bs) : oi (s.findIdx? p) < (s.length : Int) ∨ s = [] := by
  cases h : s.findIdx? p with
  | none => cases s with
    | nil => exact .inr rfl
    | cons a l => left; simp [oi]; omega
  | some n => left; have := findIdx_lt h; simp [oi]; omega
end Go.Proofs.YtiebedcldbmlhaaGreatDoor
