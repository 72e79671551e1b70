/-
  getMatch, of a slash and one parameter with one constraint, at a slash and a value without a slash. Conditions: of a size that addresses allow.
-/
import Derived.Test.YtiebedcldbmlhaaGreatDoorCF
import Derived.Test.YtiebedcldbmlhaaGreatDoorW
import Derived.Test.YtiebedcldbmlhaaGreatDoorP
namespace Go.Proofs.YtiebedcldbmlhaaGreatDoor
open Go.RowKit
set_option linter.unusedVariables false

/-- A parameter with a constraint, as the parser leaves it at the end. -/
def conSeg (nm : Bs) (con : Con) : Seg := { const := [], isParam := true, name := nm, cmp := [], partCount := 0, greedy := false, optional := false, last := true, optSlash := false, cons := [con], length := 0 }

set_option maxHeartbeats 4000000 in
set_option maxRecDepth 100000 in
theorem match_con (t v : ByteArray) (nm : Bs) (con : Con) (Q r cap A g1 g2 rc ccap kc : Nat) (w : World) (X : Bool) (hv0 : 0 < v.size) (hvs : v.size ≤ 1000000) (ht : t.data.toList = 47 :: v.data.toList) (hv47 : ∀ y ∈ v.data.toList, y ≠ 47)
    (hQ : w.cell? ⟨Q, 0, none⟩ = some (.slice (some ⟨r, 0, none⟩) 2 cap)) (hr1 : w.cell? ⟨r, 0, none⟩ = some (.pointer (some ⟨g1, 0, none⟩))) (hr2 : w.cell? ⟨r, 1, none⟩ = some (.pointer (some ⟨g2, 0, none⟩)))
    (cv1 : Value) (ho1 : SegObj w g1 (cseg [47]) cv1) (ho2 : SegObj w g2 (conSeg nm con) (.slice (some ⟨rc, 0, none⟩) 1 ccap)) (hc : w.cell? ⟨rc, 0, none⟩ = some (.pointer (some ⟨kc, 0, none⟩)))
    (hA : Arr A w w []) (hAr : A ≠ r) (hA2 : A ≠ g2) (hAc : A ≠ rc)
    (hchk : ∀ wx, Touch [A] w wx → Calls Tryz.prog 34 #[.pointer (some ⟨kc, 0, none⟩), .string v] wx fun e w' => e = .returned (.bool X) ∧ Below wx.heap.size wx w') :
    Calls Tryz.prog 44 #[.pointer (some ⟨Q, 0, none⟩), .string t, .string t, .pointer (some ⟨A, 0, none⟩), .bool false] w fun e w' => e = .returned (.bool X) ∧ Touch [A] w w' ∧ Arr A w w' [v.data.toList] := by
  have hts : t.size = v.size + 1 := by rw [← size_data, ht, List.length_cons, size_data]
  have hex : t.extract 1 t.size = v := by rw [bytes_ext, extract_from, ht]; rfl
  have d1 : decide ((1 : Int) ≤ (t.size : Int)) = true := decide_eq_true (by omega)
  have d2 : decide (1 ≤ t.size) = true := decide_eq_true (by omega)
  have d3 : 1 ≤ t.size := by omega
  have d4 : (0 : Int) < (t.size : Int) := by omega
  have htz : t.size ≤ 1000001 := by omega
  have HTS := Lib.hid hts
  have htk : t.extract 0 1 = ⟨#[47]⟩ := by rw [bytes_ext, take_ext0, ht]; rfl
  have hve : v.extract 0 v.size = v := by rw [bytes_ext, take_ext0, List.take_of_length_le (by rw [size_data]; exact Nat.le_refl _)]
  have hvz : v.extract v.size v.size = ⟨#[]⟩ := by rw [bytes_ext, extract_from, List.drop_of_length_le (by rw [size_data]; exact Nat.le_refl _)]
  have a1 : w.cell? ⟨g1, 1, none⟩ = some (.bool false) := ho1.cell 1 _ rfl
  have a10 : w.cell? ⟨g1, 10, none⟩ = some (.int .i64 1) := ho1.cell 10 _ rfl
  have a8 : w.cell? ⟨g1, 8, none⟩ = some (.bool false) := ho1.cell 8 _ rfl
  have a0 : w.cell? ⟨g1, 0, none⟩ = some (.string ⟨#[47]⟩) := ho1.cell 0 _ rfl
  have b1 : w.cell? ⟨g2, 1, none⟩ = some (.bool true) := ho2.cell 1 _ rfl
  have HO2 := Lib.hid ho2
  have HA := Lib.hid hA
  have HC := Lib.hid hc
  have HCHK := Lib.hid hchk
  have HV47 := Lib.hid hv47
  have HPL := Lib.hid (fun (wx : World) (h : SegObj wx g2 (conSeg nm con) (.slice (some ⟨rc, 0, none⟩) 1 ccap)) => paramLen_any v g2 (conSeg nm con) (.slice (some ⟨rc, 0, none⟩) 1 ccap) wx (by omega) h (by simp [conSeg]) (by simp [conSeg]) (by simp [conSeg]) (by simp [conSeg]) (by simp [conSeg]))
  have HPLN := Lib.hid (show paramLen v.data.toList (conSeg nm con) = v.size by rw [plen_last (x := conSeg nm con) rfl rfl hv47, size_data])
  clear ho1 ho2 hA hc hchk hv47 ht hts
  go_enter Tryz.func44, Tryz.ntmps44
  go_wp2_with fail
  refine wp_loop_rounds 3 ?_
  rw [rounds_succ]
  go_upto_region 10 with fail
  go_quiet (fail)
  go_upto_region 26 with fail
  go_quiet (fail)
  go_wp2_with fail
  rw [rounds_succ]
  go_wp2_with fail
  have HPL2 := Lib.hid (fun n => HPL.out (w.drewN n) (show SegObj (w.drewN n) g2 (conSeg nm con) (.slice (some ⟨rc, 0, none⟩) 1 ccap) from HO2.out))
  refine (HPL2.out _).mono ?_
  rintro e w3 ⟨rfl, hb⟩
  rw [HPLN.out]
  have hb3 : Below w.heap.size w w3 := ⟨hb.os, hb.tape, hb.output, hb.size, hb.block⟩
  have ho3 := HO2.out.below hb3 HO2.out.lt
  have c6 : w3.cell? ⟨g2, 6, none⟩ = some (.bool false) := ho3.cell 6 _ rfl
  have c9 : w3.cell? ⟨g2, 9, none⟩ = some (.slice (some ⟨rc, 0, none⟩) 1 ccap) := ho3.cell 9 _ rfl
  have hcr := (hb3.cell (p := ⟨rc, 0, none⟩) (cell_lt HC.out)).trans HC.out
  have ha3 := HA.out.below hb3
  obtain ⟨⟨cA, hcA⟩, hfA⟩ := ha3.cell (i := 0) (by omega)
  have hpush := ha3.push v.data.toList (by simp)
  rw [bs_of] at hpush
  have n6 : ∀ x, (w3.setCell ⟨A, 0, none⟩ x).cell? ⟨g2, 6, none⟩ = some (.bool false) := fun x => cell_far hA2 c6
  have n9 : ∀ x, (w3.setCell ⟨A, 0, none⟩ x).cell? ⟨g2, 9, none⟩ = some (.slice (some ⟨rc, 0, none⟩) 1 ccap) := fun x => cell_far hA2 c9
  have nr : ∀ x, (w3.setCell ⟨A, 0, none⟩ x).cell? ⟨rc, 0, none⟩ = some (.pointer (some ⟨kc, 0, none⟩)) := fun x => cell_far hAc hcr
  have nA : (w3.setCell ⟨A, 0, none⟩ (.string v)).cell? ⟨A, 0, none⟩ = some (.string v) := World.cell?_setCell_same _ _ _ hcA
  have hvn : ((v.size : Int) == 0) = false := by rw [beq_eq_false_iff_ne]; omega
  have HPUSH := Lib.hid hpush
  clear hb hb3 ho3 hcr ha3 hpush
  go_upto_region 15 with fail
  go_region
  obtain ⟨W4, hW4⟩ : ∃ W4, W4 = (w3.setCell ⟨A, 0, none⟩ (.string v)).drew := ⟨_, rfl⟩
  have m6 : W4.cell? ⟨g2, 6, none⟩ = some (.bool false) := by rw [hW4]; exact n6 _
  have m9 : W4.cell? ⟨g2, 9, none⟩ = some (.slice (some ⟨rc, 0, none⟩) 1 ccap) := by rw [hW4]; exact n9 _
  have mr : W4.cell? ⟨rc, 0, none⟩ = some (.pointer (some ⟨kc, 0, none⟩)) := by rw [hW4]; exact nr _
  have mA : W4.cell? ⟨A, 0, none⟩ = some (.string v) := by rw [hW4]; exact nA
  have harr : Arr A w W4 [v.data.toList] := by rw [hW4]; exact HPUSH.out.drewN 1
  rw [← hW4]
  have HARR := Lib.hid harr
  have HCK := Lib.hid (HCHK.out W4 harr.touch)
  clear hW4 n6 n9 nr nA harr
  go_wp2_with fail
  refine wp_loop_rounds 2 ?_
  rw [rounds_succ]
  go_wp2_with fail
  refine HCK.out.mono ?_
  rintro e w5 ⟨rfl, hb5⟩
  have HA5 := Lib.hid (HARR.out.below hb5)
  clear hb5
  cases X with
  | false =>
    go_wp2_with fail
    go_ret
    exact ⟨rfl, HA5.out.touch, HA5.out⟩
  | true =>
    go_wp2_with fail
    rw [rounds_succ]
    go_upto_region 26 with fail
    go_quiet (fail)
    go_wp2_with fail
    rw [rounds_succ]
    go_wp2_with fail
    go_ret
    have h := HA5.out.drewN nq
    exact ⟨rfl, h.touch, h⟩
end Go.Proofs.YtiebedcldbmlhaaGreatDoor
