/-
  The reference's Parts, walked: either it leaves the answer open, or it gives the list of parts that it reads. Conditions: a pattern of at most three hundred bytes.
-/
import Derived.Test.YtiebedcldbmlhaaGreatDoorBD
namespace Go.Proofs.YtiebedcldbmlhaaGreatDoor
open Go.RowKit
set_option linter.unusedVariables false

theorem itoa_nat (n : Nat) : Lib.itoa (n : Int) = Lib.decDigits n := by
  unfold Lib.itoa
  rw [if_neg (by omega), Int.toNat_natCast]
theorem sign_str (c : UInt8) (l : Bs) : (⟨#[c]⟩ ++ bs l : ByteArray) = bs (c :: l) := by rw [bytes_ext]; simp
theorem extract_bs (s : ByteArray) (a e : Nat) : s.extract a e = bs ((s.data.toList.drop a).take (e - a)) := by rw [bytes_ext, extract_range, bs_data]
/-- The new part's block, its fields stored. -/
theorem set_star {W : World} {g : Nat} (x : Value) (h : W.heap[g]? = some (.cells #[Value.string ⟨#[]⟩, Value.string ⟨#[]⟩, Value.bool true, Value.bool false, Value.bool false, Value.slice none 0 0] 57 (0, 0))) :
    (((W.setCell ⟨g, 1, none⟩ x).setCell ⟨g, 3, none⟩ (.bool true)).setCell ⟨g, 4, none⟩ (.bool true)).heap[g]? = some (.cells #[Value.string ⟨#[]⟩, x, Value.bool true, Value.bool true, Value.bool true, Value.slice none 0 0] 57 (0, 0)) :=
  obj_set (i := 4) _ (obj_set (i := 3) _ (obj_set (i := 1) x h))
theorem set_plus {W : World} {g : Nat} (x : Value) (h : W.heap[g]? = some (.cells #[Value.string ⟨#[]⟩, Value.string ⟨#[]⟩, Value.bool true, Value.bool false, Value.bool false, Value.slice none 0 0] 57 (0, 0))) :
    ((W.setCell ⟨g, 1, none⟩ x).setCell ⟨g, 3, none⟩ (.bool true)).heap[g]? = some (.cells #[Value.string ⟨#[]⟩, x, Value.bool true, Value.bool true, Value.bool false, Value.slice none 0 0] 57 (0, 0)) :=
  obj_set (i := 3) _ (obj_set (i := 1) x h)
theorem set_name {W : World} {g : Nat} (x : Value) (h : W.heap[g]? = some (.cells #[Value.string ⟨#[]⟩, Value.string ⟨#[]⟩, Value.bool true, Value.bool false, Value.bool false, Value.slice none 0 0] 57 (0, 0))) :
    (W.setCell ⟨g, 1, none⟩ x).heap[g]? = some (.cells #[Value.string ⟨#[]⟩, x, Value.bool true, Value.bool false, Value.bool false, Value.slice none 0 0] 57 (0, 0)) := obj_set (i := 1) x h
theorem set_opt {W : World} {g : Nat} (x : Value) (h : W.heap[g]? = some (.cells #[Value.string ⟨#[]⟩, x, Value.bool true, Value.bool false, Value.bool false, Value.slice none 0 0] 57 (0, 0))) :
    (W.setCell ⟨g, 4, none⟩ (.bool true)).heap[g]? = some (.cells #[Value.string ⟨#[]⟩, x, Value.bool true, Value.bool false, Value.bool true, Value.slice none 0 0] 57 (0, 0)) := obj_set (i := 4) _ h
theorem set_const {W : World} {g : Nat} (x : Value) (h : W.heap[g]? = some (.cells #[Value.string ⟨#[]⟩, Value.string ⟨#[]⟩, Value.bool true, Value.bool false, Value.bool false, Value.slice none 0 0] 57 (0, 0))) :
    ((((((W.setCell ⟨g, 0, none⟩ x).setCell ⟨g, 1, none⟩ (.string ⟨#[]⟩)).setCell ⟨g, 2, none⟩ (.bool false)).setCell ⟨g, 3, none⟩ (.bool false)).setCell ⟨g, 4, none⟩ (.bool false)).setCell ⟨g, 5, none⟩ (.slice none 0 0)).heap[g]? = some (.cells #[x, Value.string ⟨#[]⟩, Value.bool false, Value.bool false, Value.bool false, Value.slice none 0 0] 57 (0, 0)) :=
  obj_set (i := 5) _ (obj_set (i := 4) _ (obj_set (i := 3) _ (obj_set (i := 2) _ (obj_set (i := 1) _ (obj_set (i := 0) x h)))))
/-- What Parts answers. -/
def PartsEnd (s : Bs) (w : World) (e : Ending) (w' : World) : Prop := Below w.heap.size w w' ∧ (e = .returned (.tuple #[.slice none 0 0, .int .i64 2]) ∨ ∃ (L : List Pt) (v : Value), e = .returned (.tuple #[v, .int .i64 1]) ∧ readP s.length s 0 0 false = some L ∧ parOf L ≤ 30 ∧ L.length ≤ 300 ∧ w'.ownsRow w.heap.size 57 6 v L.length (prow L))
theorem parts_open {s : Bs} {w w' : World} (h : Below w.heap.size w w') : PartsEnd s w (.returned (.tuple #[.slice none 0 0, .int .i64 2])) w' := ⟨h, .inl rfl⟩
/-- What a round's switch leaves. -/
def Turned (s : Bs) (k : Nat) (prev : Bool) (st pl f : Nat) (wr : World) (a5 a6 a8 : Value) (wx : World) : Prop :=
  ∃ (y : Pt) (k' st' pl' : Nat), a5 = .int .i64 st' ∧ a6 = .int .i64 pl' ∧ a8 = .int .i64 k' ∧ Round s k prev st pl f y k' st' pl' ∧ wx.heap[wr.heap.size]? = some (.cells (pcells y).toArray 57 (0, 0)) ∧ Below wr.heap.size wr wx

set_option maxHeartbeats 4000000 in
set_option maxRecDepth 100000 in
theorem parts_any (s : ByteArray) (w : World) (hs : s.size ≤ 300) : Calls Tryz.prog 28 #[.string s] w (PartsEnd s.data.toList w) := by
  obtain ⟨i57, z57, hi57, hz57, hzs57, hsz57, hby57⟩ := infos_parts info57
  have hsl := size_data s
  obtain ⟨S, hS⟩ : ∃ S, S = s.data.toList := ⟨_, rfl⟩
  rw [← hS] at hsl ⊢
  have HS := Lib.hid hS
  have HSL := Lib.hid hsl
  clear hS hsl
  go_enter Tryz.func28, Tryz.ntmps28
  go_wp2_with fail
  go_loopw [4, 5, 6, 7, 8] (fun a4 a5 a6 a7 a8 wr => ∃ (k : Nat) (acc : List Pt) (st pl fuel : Nat), a5 = .int .i64 st ∧ a6 = .int .i64 pl ∧ a7 = .int .i64 (parOf acc : Nat) ∧ a8 = .int .i64 k ∧ Reads S k acc st pl fuel ∧ wr.ownsRow w.heap.size 57 6 a4 acc.length (prow acc) ∧ Below w.heap.size w wr) (fun _ _ _ _ i _ => s.size - (intOf i).toNat)
  case atStart => exact ⟨0, [], 0, 0, S.length, rfl, rfl, rfl, rfl, ⟨fun R h => h, by omega, by omega, Nat.le_refl _, Nat.le_refl _, Nat.le_refl _, by simp⟩, World.ownsRow_nil _ _ _ _, Below.refl _ _⟩
  case round =>
    obtain ⟨k, acc, st, pl, fuel, rfl, rfl, rfl, rfl, hr, hown, hb⟩ := hrel
    have HR := Lib.hid hr
    have HO := Lib.hid hown
    have HB := Lib.hid hb
    have b1 := hr.ksz
    have b2 := hr.stk
    have b3 := hr.plk
    have b4 := hr.acck
    have b5 := parOf_le acc
    have b6 := hb.size
    rw [HSL.out] at b1
    clear hr hown hb
    by_cases hlt : k < s.size
    · obtain ⟨f, rfl⟩ : ∃ f, fuel = f + 1 := ⟨fuel - 1, by have := HR.out.fl; have := HSL.out; omega⟩
      have hkS : k < S.length := by rw [HSL.out]; exact hlt
      obtain ⟨c, hc⟩ : ∃ c, c = S[k]'hkS := ⟨_, rfl⟩
      have hsk : s[k]'hlt = c := by
        have h1 := byte_at s k hlt
        rw [← HS.out, List.getElem?_eq_getElem hkS] at h1
        rw [hc]; exact (Option.some.inj h1).symm
      have HC := Lib.hid hc
      obtain ⟨pv, hpv⟩ : ∃ pv, pv = prevOf acc := ⟨_, rfl⟩
      have HPV := Lib.hid hpv
      clear hc hpv
      obtain ⟨W5, hW5⟩ : ∃ W5, W5 = wr.alloc (Obj.cells #[Value.string ⟨#[]⟩, Value.string ⟨#[]⟩, Value.bool true, Value.bool false, Value.bool false, Value.slice none 0 0] 57) := ⟨_, rfl⟩
      have hb5 : Below wr.heap.size wr W5 := by rw [hW5]; exact (Below.refl _ _).alloc (Nat.le_refl _) _
      have h5 : W5.heap[wr.heap.size]? = some (.cells #[Value.string ⟨#[]⟩, Value.string ⟨#[]⟩, Value.bool true, Value.bool false, Value.bool false, Value.slice none 0 0] 57 (0, 0)) := by rw [hW5, heap_alloc_new]
      have HW5 := Lib.hid hW5
      have HB5 := Lib.hid hb5
      have H5 := Lib.hid h5
      clear hW5 hb5 h5
      go_upto_block 2 with fail
      rw [← HW5.out]
      go_cut [5, 6, 8, 11, 12] from 22 to 109 (fun a5 a6 a8 a11 a12 wx => Turned S k pv st pl f wr a5 a6 a8 wx)
      case first =>
        have hsz5 : W5.heap.size = wr.heap.size + 1 := by rw [HW5.out]; simp
        have HSZ5 := Lib.hid hsz5
        have m0 := obj_cell (i := 0) H5.out rfl
        have m1 := obj_cell (i := 1) H5.out rfl
        have m2 := obj_cell (i := 2) H5.out rfl
        have m3 := obj_cell (i := 3) H5.out rfl
        have m4 := obj_cell (i := 4) H5.out rfl
        have m5 := obj_cell (i := 5) H5.out rfl
        have f0 := obj_free (i := 0) H5.out
        have f1 := obj_free (i := 1) H5.out
        have f2 := obj_free (i := 2) H5.out
        have f3 := obj_free (i := 3) H5.out
        have f4 := obj_free (i := 4) H5.out
        have f5 := obj_free (i := 5) H5.out
        clear hsz5
        by_cases h42 : c = 42
        · have q42 : ((c.toNat : Int) == 42) = true := by rw [u8_is c 42 42 rfl, beq_iff_eq]; exact h42
          have hd := digit_any (st + 1) ((st : Int) + 1) W5 (by omega) (by omega) (by omega)
          have hdz := dec_size ((st : Int) + 1).toNat (by omega)
          have hst1 : ((st : Int) + 1).toNat = st + 1 := by omega
          rw [hst1] at hd hdz
          rw [bs_size] at hdz
          have HD := Lib.hid hd
          have H42 := Lib.hid h42
          clear hd h42 hst1
          go_wp2_with fail
          refine HD.out.mono ?_
          rintro e w' ⟨rfl, rfl⟩
          go_wp2_with fail
          go_meet
          case rel =>
            refine ⟨⟨[], 42 :: Lib.itoa (st + 1 : Nat), true, true, true⟩, k + 1, st + 1, pl, by go_num, rfl, by go_num, round_star hkS (by rw [← HC.out]; exact H42.out), ?_, ((HB5.out.setCell (p := ⟨wr.heap.size, 1, none⟩) (Nat.le_refl _) _).setCell (p := ⟨wr.heap.size, 3, none⟩) (Nat.le_refl _) _).setCell (p := ⟨wr.heap.size, 4, none⟩) (Nat.le_refl _) _⟩
            have h := set_star (.string (⟨#[42]⟩ ++ bs (Lib.decDigits (st + 1)))) H5.out
            rw [sign_str, ← itoa_nat (st + 1)] at h
            rw [sign_str, ← itoa_nat (st + 1)]
            exact h
        · have q42 : ((c.toNat : Int) == 42) = false := by rw [u8_is c 42 42 rfl, beq_eq_false_iff_ne]; exact h42
          clear h42
          by_cases h43 : c = 43
          · have q43 : ((c.toNat : Int) == 43) = true := by rw [u8_is c 43 43 rfl, beq_iff_eq]; exact h43
            have hd := digit_any (pl + 1) ((pl : Int) + 1) W5 (by omega) (by omega) (by omega)
            have hdz := dec_size ((pl : Int) + 1).toNat (by omega)
            have hst1 : ((pl : Int) + 1).toNat = pl + 1 := by omega
            rw [hst1] at hd hdz
            rw [bs_size] at hdz
            have HD := Lib.hid hd
            have H43 := Lib.hid h43
            clear hd h43 hst1
            go_wp2_with fail
            refine HD.out.mono ?_
            rintro e w' ⟨rfl, rfl⟩
            go_wp2_with fail
            go_meet
            case rel =>
              refine ⟨⟨[], 43 :: Lib.itoa (pl + 1 : Nat), true, true, false⟩, k + 1, st, pl + 1, rfl, by go_num, by go_num, round_plus hkS (by rw [← HC.out]; exact H43.out), ?_, (HB5.out.setCell (p := ⟨wr.heap.size, 1, none⟩) (Nat.le_refl _) _).setCell (p := ⟨wr.heap.size, 3, none⟩) (Nat.le_refl _) _⟩
              have h := set_plus (.string (⟨#[43]⟩ ++ bs (Lib.decDigits (pl + 1)))) H5.out
              rw [sign_str, ← itoa_nat (pl + 1)] at h
              rw [sign_str, ← itoa_nat (pl + 1)]
              exact h
          · have q43 : ((c.toNat : Int) == 43) = false := by rw [u8_is c 43 43 rfl, beq_eq_false_iff_ne]; exact h43
            clear h43
            by_cases h58 : c = 58
            · have q58 : ((c.toNat : Int) == 58) = true := by rw [u8_is c 58 58 rfl, beq_iff_eq]; exact h58
              have H58 := Lib.hid h58
              clear h58
              go_upto_block 3 with fail
              go_cut [11] from 52 to 63 (fun a11 wx => ∃ e : Nat, a11 = .int .i64 e ∧ Run nameB S (k + 1) e ∧ (∀ h : e < S.length, nameB S[e] = false) ∧ W5 = wx)
              case first =>
                go_wp2_with fail
                go_loopw [11] (fun a11 wx => ∃ e : Nat, a11 = .int .i64 e ∧ Run nameB S (k + 1) e ∧ W5 = wx) (fun a11 _ => s.size - (intOf a11).toNat)
                case atStart => exact ⟨k + 1, by go_num, Run.start (by rw [HSL.out]; omega), rfl⟩
                case round =>
                  obtain ⟨e, rfl, hrun, rfl⟩ := hrel
                  have HRUN := Lib.hid hrun
                  have r1 := hrun.le
                  have r2 := hrun.sz
                  rw [HSL.out] at r2
                  clear hrun
                  by_cases he : e < s.size
                  · have heS : e < S.length := by rw [HSL.out]; exact he
                    obtain ⟨d, hdc⟩ : ∃ d, d = S[e]'heS := ⟨_, rfl⟩
                    have hse : s[e]'he = d := by
                      have h1 := byte_at s e he
                      rw [← HS.out, List.getElem?_eq_getElem heS] at h1
                      rw [hdc]; exact (Option.some.inj h1).symm
                    have HDC := Lib.hid hdc
                    clear hdc
                    have HNB := Lib.hid (nameByte_any d W5)
                    go_wp2_with fail
                    refine HNB.out.mono ?_
                    rintro e' w' ⟨rfl, rfl⟩
                    obtain ⟨nb, hnb⟩ : ∃ nb, nb = nameB d := ⟨_, rfl⟩
                    rw [← hnb]
                    have HNBD := Lib.hid hnb
                    clear hnb
                    cases nb with
                    | true =>
                      go_wp2_with fail
                      go_roundw
                      case rel => exact ⟨e + 1, by go_num, HRUN.out.step heS (by rw [← HDC.out]; exact HNBD.out.symm), trivial⟩
                      case measure => simp [intOf]; omega
                    | false =>
                      go_wp2_with fail
                      go_meet
                      case rel => exact ⟨e, rfl, HRUN.out, fun _ => by rw [← HDC.out]; exact HNBD.out.symm, rfl⟩
                  · go_wp2_with fail
                    go_meet
                    case rel => exact ⟨e, rfl, HRUN.out, fun h => absurd h (by rw [HSL.out]; exact he), rfl⟩
              case rest =>
              obtain ⟨e, rfl, hrun, hstop, rfl⟩ := hcut
              have HRUN := Lib.hid hrun
              have HSTOP := Lib.hid hstop
              have r1 := hrun.le
              have r2 := hrun.sz
              rw [HSL.out] at r2
              clear hrun hstop
              by_cases hek : e = k + 1
              · have he2 : ((e : Int) == (k : Int) + 1) = true := by rw [beq_iff_eq]; omega
                clear hek
                go_wp2_with fail
                go_ret2
                exact parts_open (HB.out.trans (HB5.out.mono HB.out.size))
              · have he2 : ((e : Int) == (k : Int) + 1) = false := by rw [beq_eq_false_iff_ne]; omega
                have hke : k + 1 < e := by omega
                have hx1 : ((k : Int) + 1).toNat = k + 1 := by omega
                have HX := Lib.hid (extract_bs s (k + 1) e)
                clear hek
                by_cases he : e < s.size
                · have heS : e < S.length := by rw [HSL.out]; exact he
                  obtain ⟨d, hdc⟩ : ∃ d, d = S[e]'heS := ⟨_, rfl⟩
                  have hse : s[e]'he = d := by
                    have h1 := byte_at s e he
                    rw [← HS.out, List.getElem?_eq_getElem heS] at h1
                    rw [hdc]; exact (Option.some.inj h1).symm
                  have HDC := Lib.hid hdc
                  clear hdc
                  by_cases h63 : d = 63
                  · have q63 : ((d.toNat : Int) == 63) = true := by rw [u8_is d 63 63 rfl, beq_iff_eq]; exact h63
                    have H63 := Lib.hid h63
                    clear h63
                    go_wp2_with fail
                    go_meet
                    case rel =>
                      refine ⟨⟨[], (S.drop (k + 1)).take (e - (k + 1)), true, false, true⟩, e + 1, st, pl, rfl, rfl, by go_num, round_opt hkS (by rw [← HC.out]; exact H58.out) HRUN.out HSTOP.out hke heS (by rw [← HDC.out]; exact H63.out), ?_, (HB5.out.setCell (p := ⟨wr.heap.size, 1, none⟩) (Nat.le_refl _) _).setCell (p := ⟨wr.heap.size, 4, none⟩) (Nat.le_refl _) _⟩
                      have h := set_opt _ (set_name (.string (s.extract (k + 1) e)) H5.out)
                      rw [HX.out, ← HS.out] at h
                      rw [HX.out, ← HS.out]
                      exact h
                  · have q63 : ((d.toNat : Int) == 63) = false := by rw [u8_is d 63 63 rfl, beq_eq_false_iff_ne]; exact h63
                    have H63 := Lib.hid h63
                    clear h63
                    go_wp2_with fail
                    go_meet
                    case rel =>
                      refine ⟨⟨[], (S.drop (k + 1)).take (e - (k + 1)), true, false, false⟩, e, st, pl, rfl, rfl, rfl, round_name hkS (by rw [← HC.out]; exact H58.out) HRUN.out HSTOP.out hke (fun _ => by rw [← HDC.out]; exact H63.out), ?_, HB5.out.setCell (p := ⟨wr.heap.size, 1, none⟩) (Nat.le_refl _) _⟩
                      have h := set_name (.string (s.extract (k + 1) e)) H5.out
                      rw [HX.out, ← HS.out] at h
                      rw [HX.out, ← HS.out]
                      exact h
                · go_wp2_with fail
                  go_meet
                  case rel =>
                    refine ⟨⟨[], (S.drop (k + 1)).take (e - (k + 1)), true, false, false⟩, e, st, pl, rfl, rfl, rfl, round_name hkS (by rw [← HC.out]; exact H58.out) HRUN.out HSTOP.out hke (fun h => absurd h (by rw [HSL.out]; exact he)), ?_, HB5.out.setCell (p := ⟨wr.heap.size, 1, none⟩) (Nat.le_refl _) _⟩
                    have h := set_name (.string (s.extract (k + 1) e)) H5.out
                    rw [HX.out, ← HS.out] at h
                    rw [HX.out, ← HS.out]
                    exact h
            · have q58 : ((c.toNat : Int) == 58) = false := by rw [u8_is c 58 58 rfl, beq_eq_false_iff_ne]; exact h58
              clear h58
              have HCB := Lib.hid (constByte_any c W5)
              obtain ⟨cb, hcb⟩ : ∃ cb, cb = constB c := ⟨_, rfl⟩
              rw [← hcb] at HCB
              have HCBD := Lib.hid hcb
              clear hcb
              go_wp2_with fail
              refine HCB.out.mono ?_
              rintro e' w' ⟨rfl, rfl⟩
              cases cb with
              | false =>
                go_wp2_with fail
                go_ret2
                exact parts_open (HB.out.trans (HB5.out.mono HB.out.size))
              | true =>
                go_upto_block 5 with fail
                go_cut [12] from 92 to 103 (fun a12 wx => ∃ e : Nat, a12 = .int .i64 e ∧ Run constB S k e ∧ (∀ h : e < S.length, constB S[e] = false) ∧ W5 = wx)
                case first =>
                  go_wp2_with fail
                  go_loopw [12] (fun a12 wx => ∃ e : Nat, a12 = .int .i64 e ∧ Run constB S k e ∧ W5 = wx) (fun a12 _ => s.size - (intOf a12).toNat)
                  case atStart => exact ⟨k, rfl, Run.start (by rw [HSL.out]; omega), rfl⟩
                  case round =>
                    obtain ⟨e, rfl, hrun, rfl⟩ := hrel
                    have HRUN := Lib.hid hrun
                    have r1 := hrun.le
                    have r2 := hrun.sz
                    rw [HSL.out] at r2
                    clear hrun
                    by_cases he : e < s.size
                    · have heS : e < S.length := by rw [HSL.out]; exact he
                      obtain ⟨d, hdc⟩ : ∃ d, d = S[e]'heS := ⟨_, rfl⟩
                      have hse : s[e]'he = d := by
                        have h1 := byte_at s e he
                        rw [← HS.out, List.getElem?_eq_getElem heS] at h1
                        rw [hdc]; exact (Option.some.inj h1).symm
                      have HDC := Lib.hid hdc
                      clear hdc hsk
                      have HNB := Lib.hid (constByte_any d W5)
                      go_wp2_with fail
                      refine HNB.out.mono ?_
                      rintro e' w' ⟨rfl, rfl⟩
                      obtain ⟨nb, hnb⟩ : ∃ nb, nb = constB d := ⟨_, rfl⟩
                      rw [← hnb]
                      have HNBD := Lib.hid hnb
                      clear hnb
                      cases nb with
                      | true =>
                        go_wp2_with fail
                        go_roundw
                        case rel => exact ⟨e + 1, by go_num, HRUN.out.step heS (by rw [← HDC.out]; exact HNBD.out.symm), trivial⟩
                        case measure => simp [intOf]; omega
                      | false =>
                        go_wp2_with fail
                        go_meet
                        case rel => exact ⟨e, rfl, HRUN.out, fun _ => by rw [← HDC.out]; exact HNBD.out.symm, rfl⟩
                    · go_wp2_with fail
                      go_meet
                      case rel => exact ⟨e, rfl, HRUN.out, fun h => absurd h (by rw [HSL.out]; exact he), rfl⟩
                case rest =>
                obtain ⟨e, rfl, hrun, hstop, rfl⟩ := hcut
                have hcS : constB S[k] = true := by rw [← HC.out]; exact HCBD.out.symm
                have hke : k < e := by
                  rcases Nat.lt_or_ge k e with h | h
                  · exact h
                  · have h1 := hrun.le
                    obtain rfl : e = k := by omega
                    rw [hstop hkS] at hcS
                    cases hcS
                have HRUN := Lib.hid hrun
                have HSTOP := Lib.hid hstop
                have HCS := Lib.hid hcS
                have r2 := hrun.sz
                rw [HSL.out] at r2
                have HX := Lib.hid (extract_bs s k e)
                clear hrun hstop hcS
                go_wp2_with fail
                go_meet
                case rel =>
                  refine ⟨⟨(S.drop k).take (e - k), [], false, false, false⟩, e, st, pl, rfl, rfl, rfl, round_const hkS HCS.out HRUN.out HSTOP.out hke, ?_, (((((HB5.out.setCell (p := ⟨wr.heap.size, 0, none⟩) (Nat.le_refl _) _).setCell (p := ⟨wr.heap.size, 1, none⟩) (Nat.le_refl _) _).setCell (p := ⟨wr.heap.size, 2, none⟩) (Nat.le_refl _) _).setCell (p := ⟨wr.heap.size, 3, none⟩) (Nat.le_refl _) _).setCell (p := ⟨wr.heap.size, 4, none⟩) (Nat.le_refl _) _).setCell (p := ⟨wr.heap.size, 5, none⟩) (Nat.le_refl _) _⟩
                  have h := set_const (.string (s.extract k e)) H5.out
                  rw [HX.out, ← HS.out] at h
                  rw [HX.out, ← HS.out]
                  exact h
      case rest =>
      obtain ⟨y, k', st', pl', rfl, rfl, rfl, hround, hblk, hbx⟩ := hcut
      obtain ⟨y0, e0⟩ : ∃ v, v = bs y.const := ⟨_, rfl⟩
      obtain ⟨y1, e1⟩ : ∃ v, v = bs y.name := ⟨_, rfl⟩
      obtain ⟨y2, e2⟩ : ∃ v, v = y.param := ⟨_, rfl⟩
      obtain ⟨y3, e3⟩ : ∃ v, v = y.greedy := ⟨_, rfl⟩
      obtain ⟨y4, e4⟩ : ∃ v, v = y.optional := ⟨_, rfl⟩
      have hpz : pcells y = [Value.string y0, Value.string y1, Value.bool y2, Value.bool y3, Value.bool y4, Value.slice none 0 0] := by rw [e0, e1, e2, e3, e4]; rfl
      have hone : ∀ u ∈ [Value.string y0, Value.string y1, Value.bool y2, Value.bool y3, Value.bool y4, Value.slice none 0 0], u.oneCell' = true := by rw [← hpz]; exact pcells_one _
      rw [hpz] at hblk
      have m0 := obj_cell (i := 0) hblk rfl
      have m1 := obj_cell (i := 1) hblk rfl
      have m2 := obj_cell (i := 2) hblk rfl
      have m3 := obj_cell (i := 3) hblk rfl
      have m4 := obj_cell (i := 4) hblk rfl
      have m5 := obj_cell (i := 5) hblk rfl
      have HPZ := Lib.hid hpz
      have HONE := Lib.hid hone
      have HY := Lib.hid e2
      have HRD := Lib.hid hround
      have HOC := Lib.hid (own_below HO.out hbx)
      have HBC := Lib.hid (HB.out.trans (hbx.mono HB.out.size))
      have hbase : w.heap.size ≤ wc.heap.size := by have := hbx.size; omega
      have g1 := hround.fwd
      have g2 := hround.ksz
      rw [HSL.out] at g2
      clear hpz hone e0 e1 e2 e3 e4 hround hbx hblk HB5 H5 HW5
      obtain ⟨n, hn⟩ : ∃ n, n = acc.length := ⟨_, rfl⟩
      have HN := Lib.hid hn
      rw [← hn] at HOC b4 b5
      clear hn
      cases y2 with
      | false =>
        go_wp2_with (at_builtin; refine wpList_append_own _ rfl (.tmp 126) (.tmp 128) 51 rfl w.heap.size 57 i57 z57 6 64 Tryz.underlying51 hi57 hz57 hsz57 hby57 hzs57 (by decide) _ _ _ (by rfl) (HOC.out.alloc _) ⟨wc.heap.size, 0, none⟩ 1 1 [Value.string y0, Value.string y1, Value.bool false, Value.bool y3, Value.bool y4, Value.slice none 0 0] (by rfl) rfl (by intro j z hz; rw [add_cell, Nat.zero_add]; simpa [cell_alloc, objCell] using hz) HONE.out (by simp [maxLen]; omega) (by omega) (by simp; omega) ?_; intro v' w6 hown' hgrow hnil')
        have hlt' := fun k' h => (HOC.out.lt (k := k') h).1
        have hbw := (HBC.out.alloc (by omega) (.cells #[Value.string y0, Value.string y1, Value.bool false, Value.bool y3, Value.bool y4, Value.slice none 0 0] 57)).grown hgrow (by simp; omega) hlt'
        have hstep := HR.out.step (y := y) (by rw [← HPV.out]; exact HRD.out) (by rw [← HY.out]; rfl)
        have hlen : (acc ++ [y]).length = n + 1 := by rw [List.length_append, ← HN.out]; rfl
        have hrow : w6.ownsRow w.heap.size 57 6 v' (acc ++ [y]).length (prow (acc ++ [y])) := by rw [hlen, prow_snoc, HPZ.out]; exact hown'
        have hpar : parOf (acc ++ [y]) = parOf acc + 0 := by rw [parOf_snoc, ← HY.out]; rfl
        exact ⟨⟨k', acc ++ [y], st', pl', f, rfl, rfl, by rw [hpar]; go_num, rfl, hstep, hrow, hbw⟩, by simp [intOf]; omega⟩
      | true =>
        by_cases hn0 : n = 0
        · have hp0 : prevOf acc = false := by
            have h1 : acc = [] := List.length_eq_zero_iff.1 (by rw [← HN.out]; exact hn0)
            rw [h1]; rfl
          have HP0 := Lib.hid hp0
          have d0 : decide (0 < n) = false := decide_eq_false (by omega)
          clear hp0 hn0
          obtain ⟨ao, acap, hae⟩ := own_form HOC.out
          subst hae
          go_wp2_with (at_builtin; refine wpList_append_own _ rfl (.tmp 126) (.tmp 128) 51 rfl w.heap.size 57 i57 z57 6 64 Tryz.underlying51 hi57 hz57 hsz57 hby57 hzs57 (by decide) _ _ _ (by rfl) (HOC.out.alloc _) ⟨wc.heap.size, 0, none⟩ 1 1 [Value.string y0, Value.string y1, Value.bool true, Value.bool y3, Value.bool y4, Value.slice none 0 0] (by rfl) rfl (by intro j z hz; rw [add_cell, Nat.zero_add]; simpa [cell_alloc, objCell] using hz) HONE.out (by simp [maxLen]; omega) (by omega) (by simp; omega) ?_; intro v' w6 hown' hgrow hnil')
          have hlt' := fun k' h => (HOC.out.lt (k := k') h).1
          have hbw := (HBC.out.alloc (by omega) (.cells #[Value.string y0, Value.string y1, Value.bool true, Value.bool y3, Value.bool y4, Value.slice none 0 0] 57)).grown hgrow (by simp; omega) hlt'
          have hstep := HR.out.step (y := y) (by rw [← HPV.out]; exact HRD.out) (by rw [HP0.out, Bool.and_false])
          have hlen : (acc ++ [y]).length = n + 1 := by rw [List.length_append, ← HN.out]; rfl
          have hrow : w6.ownsRow w.heap.size 57 6 v' (acc ++ [y]).length (prow (acc ++ [y])) := by rw [hlen, prow_snoc, HPZ.out]; exact hown'
          have hpar : parOf (acc ++ [y]) = parOf acc + 1 := by rw [parOf_snoc, ← HY.out]; rfl
          exact ⟨⟨k', acc ++ [y], st', pl', f, rfl, rfl, by rw [hpar]; go_num, rfl, hstep, hrow, hbw⟩, by simp [intOf]; omega⟩
        · obtain ⟨j, rfl⟩ : ∃ j, n = j + 1 := ⟨n - 1, by omega⟩
          clear hn0
          obtain ⟨x, hx⟩ : ∃ x, acc[acc.length - 1]? = some x := ⟨acc[acc.length - 1]'(by have := HN.out; omega), List.getElem?_eq_getElem _⟩
          have hpx := prev_last hx
          rw [show acc.length - 1 = j by have := HN.out; omega] at hx
          obtain ⟨gv, gcap, hge, hgb, hgl, hcs⟩ := own_cell6 HOC.out (by omega)
          subst hge
          have hcx := hcs j x hx 2 (.bool x.param) rfl
          obtain ⟨xp, hxp⟩ : ∃ xp, xp = x.param := ⟨_, rfl⟩
          rw [← hxp] at hcx hpx
          have HPX := Lib.hid hpx
          clear hpx hcs hx hxp
          cases xp with
          | true =>
            go_wp2_with fail
            go_ret2
            exact parts_open HBC.out
          | false =>
            go_wp2_with (at_builtin; refine wpList_append_own _ rfl (.tmp 126) (.tmp 128) 51 rfl w.heap.size 57 i57 z57 6 64 Tryz.underlying51 hi57 hz57 hsz57 hby57 hzs57 (by decide) _ _ _ (by rfl) (HOC.out.alloc _) ⟨wc.heap.size, 0, none⟩ 1 1 [Value.string y0, Value.string y1, Value.bool true, Value.bool y3, Value.bool y4, Value.slice none 0 0] (by rfl) rfl (by intro j z hz; rw [add_cell, Nat.zero_add]; simpa [cell_alloc, objCell] using hz) HONE.out (by simp [maxLen]; omega) (by omega) (by simp; omega) ?_; intro v' w6 hown' hgrow hnil')
            have hlt' := fun k' h => (HOC.out.lt (k := k') h).1
            have hbw := (HBC.out.alloc (by omega) (.cells #[Value.string y0, Value.string y1, Value.bool true, Value.bool y3, Value.bool y4, Value.slice none 0 0] 57)).grown hgrow (by simp; omega) hlt'
            have hstep := HR.out.step (y := y) (by rw [← HPV.out]; exact HRD.out) (by rw [HPX.out, Bool.and_false])
            have hlen : (acc ++ [y]).length = j + 1 + 1 := by rw [List.length_append, ← HN.out]; rfl
            have hrow : w6.ownsRow w.heap.size 57 6 v' (acc ++ [y]).length (prow (acc ++ [y])) := by rw [hlen, prow_snoc, HPZ.out]; exact hown'
            have hpar : parOf (acc ++ [y]) = parOf acc + 1 := by rw [parOf_snoc, ← HY.out]; rfl
            exact ⟨⟨k', acc ++ [y], st', pl', f, rfl, rfl, by rw [hpar]; go_num, rfl, hstep, hrow, hbw⟩, by simp [intOf]; omega⟩
    · obtain rfl : k = s.size := by omega
      have hread : readP S.length S 0 0 false = some acc := by
        have h1 := HR.out.go []
        rw [List.drop_of_length_le (by rw [HSL.out]; exact Nat.le_refl _), List.append_nil] at h1
        exact h1 (by cases fuel <;> rfl)
      have hcsz := HR.out.csz
      have HREAD := Lib.hid hread
      have HCSZ := Lib.hid hcsz
      obtain ⟨n, hn⟩ : ∃ n, n = acc.length := ⟨_, rfl⟩
      have HN := Lib.hid hn
      rw [← hn] at HO b4 b5
      clear hread hcsz hn
      obtain ⟨ao, acap, hae⟩ := own_form HO.out
      subst hae
      by_cases h30 : 30 < parOf acc
      · have d30 : decide (30 < parOf acc) = true := decide_eq_true h30
        go_wp2_with fail
        go_ret2
        exact parts_open HB.out
      · have d30 : decide (30 < parOf acc) = false := decide_eq_false h30
        have H30 := Lib.hid h30
        clear h30
        go_wp2_with fail
        · go_ret2
          exact parts_open HB.out
        · go_loopw [13] (fun a13 wx => ∃ i : Nat, i ≤ n ∧ a13 = .int .i64 ((i : Int) + 1) ∧ wr = wx) (fun a13 _ => n + 1 - (intOf a13).toNat)
          case atStart => exact ⟨0, Nat.zero_le _, rfl, rfl⟩
          case round =>
            obtain ⟨i, hin, rfl, rfl⟩ := hrel
            by_cases hjn : i + 1 < n
            · obtain ⟨gv, gcap, hge, hgb, hgl, hcs⟩ := own_cell6 HO.out (by omega)
              cases hge
              obtain ⟨x, hx⟩ : ∃ x, acc[i]? = some x := ⟨acc[i]'(by have := HN.out; omega), List.getElem?_eq_getElem _⟩
              obtain ⟨y, hy⟩ : ∃ y, acc[i + 1]? = some y := ⟨acc[i + 1]'(by have := HN.out; omega), List.getElem?_eq_getElem _⟩
              have c2 := hcs i x hx 2 (.bool x.param) rfl
              have c3 := hcs i x hx 3 (.bool x.greedy) rfl
              have c0 : wr.cell? ⟨gv, (i + 1) * 6, none⟩ = some (.string (bs y.const)) := hcs (i + 1) y hy 0 (.string (bs y.const)) rfl
              have hyc := HCSZ.out y (List.mem_of_getElem? hy)
              rw [HSL.out] at hyc
              obtain ⟨xp, hxp⟩ : ∃ xp, xp = x.param := ⟨_, rfl⟩
              obtain ⟨xg, hxg⟩ : ∃ xg, xg = x.greedy := ⟨_, rfl⟩
              rw [← hxp] at c2
              rw [← hxg] at c3
              have HSH := Lib.hid (shorts_any (bs y.const) wr (by rw [bs_size]; omega))
              obtain ⟨yc, hyd⟩ : ∃ yc, yc = bs y.const := ⟨_, rfl⟩
              rw [← hyd] at c0 HSH
              clear hcs hx hy hxp hxg hyc hyd
              cases xp with
              | false =>
                go_wp2_with fail
                go_roundw
                case rel => exact ⟨i + 1, by omega, by go_num, trivial⟩
                case measure => simp [intOf]; omega
              | true =>
                cases xg with
                | true =>
                  go_wp2_with fail
                  go_roundw
                  case rel => exact ⟨i + 1, by omega, by go_num, trivial⟩
                  case measure => simp [intOf]; omega
                | false =>
                  go_wp2_with fail
                  refine HSH.out.mono ?_
                  rintro e' w' ⟨⟨sb, rfl⟩, rfl⟩
                  cases sb with
                  | true =>
                    go_wp2_with fail
                    go_ret2
                    exact parts_open HB.out
                  | false =>
                    go_wp2_with fail
                    go_roundw
                    case rel => exact ⟨i + 1, by omega, by go_num, trivial⟩
                    case measure => simp [intOf]; omega
            · go_wp2_with fail
              go_ret2
              refine ⟨HB.out, .inr ⟨acc, .slice ao n acap, rfl, HREAD.out, by have := H30.out; omega, by rw [← HN.out]; omega, ?_⟩⟩
              rw [← HN.out]
              exact HO.out
        · go_ret2
          exact parts_open HB.out
end Go.Proofs.YtiebedcldbmlhaaGreatDoor
