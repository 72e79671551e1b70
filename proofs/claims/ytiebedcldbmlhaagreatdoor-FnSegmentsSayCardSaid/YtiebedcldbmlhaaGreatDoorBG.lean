/-
  The law FnSegmentsSay returns true and writes nothing that was there. Conditions: the table that Itoa reads; of a size that addresses allow.
-/
import Derived.Test.YtiebedcldbmlhaaGreatDoorBE
import Derived.Test.YtiebedcldbmlhaaGreatDoorBF
import Derived.Test.YtiebedcldbmlhaaGreatDoorAI
namespace Go.Proofs.YtiebedcldbmlhaaGreatDoor
open Go.RowKit
set_option linter.unusedVariables false

set_option maxHeartbeats 4000000 in
set_option maxRecDepth 100000 in
theorem says_walk (s : ByteArray) (w : World) (hE : EnvZ w) (hs : s.size ≤ 140737488351232) :
    Calls Tryz.prog 11 #[.string s] w fun e w' => e = .returned (.bool true) ∧ Below w.heap.size w w' := by
  have HMA := Lib.hid (matches_any w hE)
  have HE := Lib.hid hE
  clear hE
  go_enter Tryz.func11, Tryz.ntmps11
  by_cases hpb : 2147483647 < s.size
  · go_wp2_with fail
    go_ret
    exact ⟨rfl, Below.refl _ _⟩
  · have hpl : s.size ≤ 2147483647 := by omega
    clear hpb
    go_wp2_with fail
    refine HMA.out.mono ?_
    rintro e w1 ⟨rfl, hb1⟩
    have HE1 := Lib.hid (HE.out.below hb1)
    have HW1 := Lib.hid hb1
    clear hb1 HMA
    by_cases h300 : 300 < s.size
    · go_wp2_with fail
      go_ret
      exact ⟨rfl, HW1.out⟩
    · have hsl : s.size ≤ 300 := by omega
      clear h300
      have HPA := Lib.hid (parts_any s w1 hsl)
      go_wp2_with fail
      refine HPA.out.mono ?_
      rintro e w2 ⟨hb2, rfl | ⟨L, v, rfl, hread, h30, hLl, hown⟩⟩
      · have HW2 := Lib.hid (HW1.out.trans (hb2.mono HW1.out.size))
        clear hb2
        go_wp2_with fail
        go_ret
        exact ⟨rfl, HW2.out⟩
      · have HW2 := Lib.hid (HW1.out.trans (hb2.mono HW1.out.size))
        have HE2 := Lib.hid (HE1.out.below hb2)
        obtain ⟨va, vcap, rfl⟩ := own_form hown
        obtain ⟨T, N, hT, hcore⟩ := parse_parts s.data.toList L hread h30
        have h60 := read_60 hread
        have hTl : T.length = L.length := by rw [← hcore, List.length_map]
        have HSG := Lib.hid (segments_all s w2 HE2.out (by omega) h60 T N hT)
        have HOL := Lib.hid hown
        have HCORE := Lib.hid hcore
        obtain ⟨n, hn⟩ : ∃ n, n = L.length := ⟨_, rfl⟩
        have HN := Lib.hid hn
        have HTN := Lib.hid (show n = T.length by rw [hn, hTl])
        rw [← hn] at HOL hLl ⊢
        rw [hTl, ← hn] at HSG
        clear hb2 hread h30 hown hT hcore h60 hTl hn HPA
        go_wp2_with fail
        refine HSG.out.mono ?_
        rintro e w3 ⟨ta, tcap, pv, rfl, hseg, hb3⟩
        have HW3 := Lib.hid (HW2.out.trans (hb3.mono HW2.out.size))
        have HOL3 := Lib.hid (own_below HOL.out hb3)
        have hpo := partsOf_any ta tcap w2.heap.size T w3 (by rw [← HTN.out]; omega) (by rw [← HTN.out]; exact hseg)
        rw [← HTN.out, HCORE.out] at hpo
        have HPO := Lib.hid hpo
        clear hseg hb3 hpo HOL HSG
        go_wp2_with fail
        refine HPO.out.mono ?_
        rintro e w4 ⟨gv, rfl, hgot, hb4⟩
        obtain ⟨ga, gcap, rfl⟩ := own_form hgot
        have HW4 := Lib.hid (HW3.out.trans (hb4.mono HW3.out.size))
        have HOL4 := Lib.hid (own_below HOL3.out hb4)
        have HGOT := Lib.hid hgot
        clear hgot hb4 HPO HOL3
        go_wp2_with fail
        go_loopw [42] (fun i wx => ∃ k : Nat, k ≤ n ∧ i = .int .i64 k ∧ Below w4.heap.size w4 wx) (fun i _ => n - (intOf i).toNat)
        case atStart => exact ⟨0, Nat.zero_le _, rfl, Below.refl _ _⟩
        case round =>
          obtain ⟨k, hk, rfl, hb⟩ := hrel
          by_cases hlt : k < n
          · obtain ⟨x, hx⟩ : ∃ x, L[k]? = some x := ⟨L[k]'(by have := HN.out; omega), List.getElem?_eq_getElem _⟩
            obtain ⟨g1, cap1, he1, _, _, hc1⟩ := own_cell6 (own_below HGOT.out hb) (by omega)
            obtain ⟨g2, cap2, he2, _, _, hc2⟩ := own_cell6 (own_below HOL4.out hb) (by omega)
            cases he1
            cases he2
            obtain ⟨a0, e0⟩ : ∃ v, v = bs x.const := ⟨_, rfl⟩
            obtain ⟨a1, e1⟩ : ∃ v, v = bs x.name := ⟨_, rfl⟩
            obtain ⟨b2, e2⟩ : ∃ v, v = x.param := ⟨_, rfl⟩
            obtain ⟨b3, e3⟩ : ∃ v, v = x.greedy := ⟨_, rfl⟩
            obtain ⟨b4, e4⟩ : ∃ v, v = x.optional := ⟨_, rfl⟩
            have hpz : pcells x = [Value.string a0, Value.string a1, Value.bool b2, Value.bool b3, Value.bool b4, Value.slice none 0 0] := by rw [e0, e1, e2, e3, e4]; rfl
            have hx1 := hc1 k x hx
            have hx2 := hc2 k x hx
            rw [hpz] at hx1 hx2
            have d0 : wr.cell? ⟨g1, k * 6, none⟩ = _ := hx1 0 _ rfl
            have d1 := hx1 1 _ rfl
            have d2 := hx1 2 _ rfl
            have d3 := hx1 3 _ rfl
            have d4 := hx1 4 _ rfl
            have k0 : wr.cell? ⟨g2, k * 6, none⟩ = _ := hx2 0 _ rfl
            have k1 := hx2 1 _ rfl
            have k2 := hx2 2 _ rfl
            have k3 := hx2 3 _ rfl
            have k4 := hx2 4 _ rfl
            have HB := Lib.hid hb
            clear e0 e1 e2 e3 e4 hpz hx1 hx2 hc1 hc2 hx hb
            go_upto_region 19 with fail
            go_quiet (fail)
            go_wp2_with fail
            go_roundw
            case rel => exact ⟨k + 1, by omega, by go_num, HB.out.os, HB.out.tape, HB.out.output, HB.out.size, HB.out.block⟩
            case measure => simp [intOf]; omega
          · obtain rfl : k = n := by omega
            have HB := Lib.hid hb
            clear hb
            go_wp2_with fail
            go_ret
            exact ⟨rfl, HW4.out.trans (HB.out.mono HW4.out.size)⟩
theorem says_law (s : ByteArray) (w : World) (hE : EnvZ w) (hs : s.size ≤ 140737488351232) :
    Calls Tryz.prog 11 #[.string s] w fun e w' => e = .returned (.bool true) ∧ Below w.heap.size w w' := says_walk s w hE hs
end Go.Proofs.YtiebedcldbmlhaaGreatDoor
