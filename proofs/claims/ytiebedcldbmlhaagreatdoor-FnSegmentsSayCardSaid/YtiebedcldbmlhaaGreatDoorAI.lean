/-
  Lists of texts and of bytes among a law's arguments, opened; the laws FnPatternMade and FnPatternOther on them. Conditions: the table that Itoa reads.
-/
import Derived.Test.YtiebedcldbmlhaaGreatDoorAH
import Derived.SliceStrings
import Derived.Laws.Pointers
namespace Go.Proofs.YtiebedcldbmlhaaGreatDoor
open Go.ChangeShapes Go.WideShapes Go.RowKit
set_option linter.unusedVariables false

theorem cells9 : Tryz.prog.cellsOf 9 = 1 := by kernel_rfl
theorem cells5 : Tryz.prog.cellsOf 5 = 1 := by kernel_rfl

theorem strs_open {H : Type} {enc : TypeId × Value → H} {W : World} {a : Option Addr} {len cap : Nat} {d : DataW H} {p : List MemPlace} (h : DataW.Trod enc Tryz.prog W 0 (fun _ => true) true 22 (.slice a len cap) d p) :
    ∃ ss : List ByteArray, len = ss.length ∧ ss.length ≤ maxLen ∧ TextsAt W a ss := by
  obtain ⟨fuel, hf⟩ := h
  rcases open_strings Tryz.underlying22 Tryz.underlying9 cells9 hf with ⟨hcs, _⟩ | ⟨a', len', cap', ss, hcs, _, hl, hm, hz, _, hcell, _⟩
  · simp [Value.cells] at hcs
    obtain ⟨rfl, rfl, rfl⟩ := hcs
    exact ⟨[], rfl, Nat.zero_le _, .inl rfl⟩
  · simp [Value.cells] at hcs
    obtain ⟨rfl, rfl, rfl⟩ := hcs
    simp only [if_true] at hz
    have hlen : (ss.take len).length = len := by rw [List.length_take]; omega
    refine ⟨ss.take len, hlen.symm, by rw [hlen]; omega, ?_⟩
    by_cases h0 : len = 0
    · left
      subst h0
      rfl
    · right
      obtain ⟨b, off, spot⟩ := a'
      have hspot : spot = none := by simpa [Addr.add] using World.cell?_spot (hcell 0 (by omega))
      subst hspot
      refine ⟨b, off, rfl, fun i hi => ?_⟩
      have hi' : i < len := by rw [hlen] at hi; exact hi
      have hc := hcell i (by omega)
      rw [add_cell] at hc
      rw [hc, List.getD_eq_getElem?_getD, List.getD_eq_getElem?_getD, List.getElem?_take_of_lt hi']
theorem kinds_open {H : Type} {enc : TypeId × Value → H} {W : World} {a : Option Addr} {len cap : Nat} {d : DataW H} {p : List MemPlace} (h : DataW.Trod enc Tryz.prog W 0 (fun _ => true) true 23 (.slice a len cap) d p) :
    ∃ ks : List Nat, len = ks.length ∧ ks.length ≤ maxLen ∧ KindsAt W a ks ∧ ∀ i, ks.getD i 0 < 256 := by
  obtain ⟨fuel, hf⟩ := h
  rcases open_ints Tryz.underlying23 Tryz.underlying5 cells5 hf with ⟨hcs, _⟩ | ⟨a', len', cap', zs, hcs, _, hl, hm, hz, _, hcell, hwf⟩
  · simp [Value.cells] at hcs
    obtain ⟨rfl, rfl, rfl⟩ := hcs
    exact ⟨[], rfl, Nat.zero_le _, .inl rfl, fun i => by show (0 : Nat) < 256; omega⟩
  · simp [Value.cells] at hcs
    obtain ⟨rfl, rfl, rfl⟩ := hcs
    simp only [if_true] at hz
    have hlen : ((zs.take len).map Int.toNat).length = len := by rw [List.length_map, List.length_take]; omega
    have hget : ∀ i, i < len → ((zs.take len).map Int.toNat).getD i 0 = (zs.getD i 0).toNat := fun i hi => by
      rw [List.getD_eq_getElem?_getD, List.getElem?_map, List.getElem?_take_of_lt hi, List.getD_eq_getElem?_getD, List.getElem?_eq_getElem (by omega)]
      rfl
    have hb : ∀ i, i < len → 0 ≤ zs.getD i 0 ∧ zs.getD i 0 < 256 := fun i hi => by
      have h1 := hwf (zs.getD i 0) (by rw [List.getD_eq_getElem?_getD, List.getElem?_eq_getElem (by omega)]; exact List.getElem_mem _)
      have m1 : IntKind.u8.min = 0 := by decide
      have m2 : IntKind.u8.max = 255 := by decide
      simp [Lit.wf] at h1 ⊢
      rw [m1, m2] at h1
      omega
    refine ⟨(zs.take len).map Int.toNat, hlen.symm, by rw [hlen]; omega, ?_, fun i => ?_⟩
    · by_cases h0 : len = 0
      · left
        subst h0
        rfl
      · right
        obtain ⟨b, off, spot⟩ := a'
        have hspot : spot = none := by simpa [Addr.add] using World.cell?_spot (hcell 0 (by omega))
        subst hspot
        refine ⟨b, off, rfl, fun i hi => ?_⟩
        have hi' : i < len := by rw [hlen] at hi; exact hi
        have hc := hcell i (by omega)
        rw [add_cell] at hc
        rw [hc, hget i hi', Int.toNat_of_nonneg (hb i hi').1]
    · by_cases hi : i < len
      · rw [hget i hi]
        have := hb i hi
        omega
      · rw [List.getD_eq_getElem?_getD, List.getElem?_eq_none (by rw [hlen]; omega)]
        show (0 : Nat) < 256
        omega

theorem other_law (a0 : Option Addr) (c0 : Nat) (ps : List ByteArray) (p : ByteArray) (w : World) (hE : EnvZ w) (hl0 : ps.length ≤ maxLen) (h0 : TextsAt w a0 ps) (hps : p.size ≤ 140737488351232) :
    Calls Tryz.prog 5 #[.slice a0 ps.length c0, .string p] w fun e w' => e = .returned (.bool true) ∧ Below w.heap.size w w' := other_walk a0 c0 ps p w hE hl0 hps h0
theorem made_law (a0 : Option Addr) (c0 : Nat) (ps : List ByteArray) (a1 : Option Addr) (c1 : Nat) (vs : List ByteArray) (a2 : Option Addr) (c2 : Nat) (ks : List Nat) (w : World) (hE : EnvZ w) (hl0 : ps.length ≤ maxLen) (h0 : TextsAt w a0 ps) (hl1 : vs.length ≤ maxLen) (h1 : TextsAt w a1 vs) (hl2 : ks.length ≤ maxLen) (h2 : KindsAt w a2 ks) (hk : ∀ i, ks.getD i 0 < 256) :
    Calls Tryz.prog 3 #[.slice a0 ps.length c0, .slice a1 vs.length c1, .slice a2 ks.length c2] w fun e w' => e = .returned (.bool true) ∧ Below w.heap.size w w' := made_walk a0 a1 a2 c0 c1 c2 ps vs ks w hE hl0 hl1 hl2 h0 h1 h2 hk
end Go.Proofs.YtiebedcldbmlhaaGreatDoor
