/-
  Joined: underscoreOK.
  Conditions: each law's own.
-/
import Derived.Test.YtiebedcldbmlhaaGreatDoorK09
namespace Go.Proofs.YtiebedcldbmlhaaGreatDoor.Fl
open Go.RowKit
set_option linter.unusedVariables false

theorem uRun_dig {hx : Bool} {i c : Nat} {l : List Nat} (h : (48 ≤ c ∧ c ≤ 57) ∨ (hx = true ∧ 97 ≤ low c ∧ low c ≤ 102)) : uRun hx i (c :: l) = uRun hx 48 l := by rw [uRun, if_pos h]
theorem uRun_us {hx : Bool} {i : Nat} {l : List Nat} : uRun hx i (95 :: l) = if i = 48 then uRun hx 95 l else false := by
  rw [uRun, if_neg, if_pos rfl]
  rintro (h | h)
  · omega
  · have : low 95 = 127 := by decide
    omega
theorem uRun_oth {hx : Bool} {i c : Nat} {l : List Nat} (h : ¬ ((48 ≤ c ∧ c ≤ 57) ∨ (hx = true ∧ 97 ≤ low c ∧ low c ≤ 102))) (h2 : c ≠ 95) : uRun hx i (c :: l) = if i = 95 then false else uRun hx 33 l := by rw [uRun, if_neg h, if_neg h2]

set_option maxHeartbeats 4000000 in
set_option maxRecDepth 100000 in
theorem under_any (s : ByteArray) (w : World) (hs : s.size ≤ 1000000000) : Calls Tryz.prog 110 #[.string s] w fun e w' => e = .returned (.bool (uOk (ns s))) ∧ w' = w := by
  obtain ⟨Z, hZ⟩ : ∃ Z, Z = uOk (ns s) := ⟨_, rfl⟩
  rw [← hZ]
  have HZ := Lib.hid hZ
  clear hZ
  go_enter Tryz.func110, Tryz.ntmps110
  go_upto_region 3 with fail
  go_cut [18] from 6 to 18 (fun x wx => ∃ b : Bool, x = .bool b ∧ (if b then ∃ h : 1 ≤ s.size, (signOf (ns s)).2 = (ns s).drop 1 else (signOf (ns s)).2 = ns s) ∧ wx = w)
  case first =>
    by_cases h0 : 0 < s.size
    · have hcons := ns_drop s 0 h0
      obtain ⟨x, hc⟩ : ∃ x : Nat, (s[0]'h0).toNat = x := ⟨_, rfl⟩
      rw [List.drop_zero, Nat.zero_add, hc] at hcons
      have hsg := sign_cases _ x _ hcons
      have HSG := Lib.hid hsg
      have HCO := Lib.hid hcons
      have hd : decide ((1 : Int) ≤ (s.size : Int)) = true := decide_eq_true (by omega)
      clear hsg hcons
      rcases HSG.out with ⟨h1, h2⟩ | ⟨h1, h2⟩ | ⟨h1, h2, h3⟩
      · subst h1
        have H2 := Lib.hid h2
        clear h2
        go_wp2_with fail
        go_meet
        exact ⟨true, rfl, ⟨h0, by rw [H2.out]⟩, rfl⟩
      · subst h1
        have H2 := Lib.hid h2
        clear h2
        go_wp2_with fail
        go_meet
        exact ⟨true, rfl, ⟨h0, by rw [H2.out]⟩, rfl⟩
      · have b1 : ((x : Int) == 43) = false := beq_eq_false_iff_ne.2 (by omega)
        have b2 : ((x : Int) == 45) = false := beq_eq_false_iff_ne.2 (by omega)
        have H2 := Lib.hid h3
        clear h1 h2 h3
        go_wp2_with fail
        go_meet
        exact ⟨false, rfl, by show (signOf (ns s)).2 = ns s; rw [H2.out, ← HCO.out], rfl⟩
    · have hd : decide ((1 : Int) ≤ (s.size : Int)) = false := decide_eq_false (by omega)
      have HN := Lib.hid (show (signOf (ns s)).2 = ns s by
        have : ns s = [] := List.eq_nil_of_length_eq_zero (by rw [ns_len]; omega)
        rw [this]; rfl)
      go_wp2_with fail
      go_meet
      exact ⟨false, rfl, HN.out, rfl⟩
  case rest =>
  obtain ⟨b, rfl, hb, rfl⟩ := hcut
  have HB := Lib.hid hb
  clear hb
  go_upto_if 18 with fail
  go_cut [0] from 19 to 20 (fun x wx => ∃ t : ByteArray, x = .string t ∧ t.size ≤ 1000000000 ∧ ns t = (signOf (ns s)).2 ∧ wx = wc)
  case first =>
    cases b with
    | true =>
      obtain ⟨h1, h2⟩ := HB.out
      have h1i : (1 : Int) ≤ (s.size : Int) := by omega
      have H2 := Lib.hid h2
      clear h2
      go_wp2_with fail
      go_meet
      exact ⟨s.extract 1 s.size, rfl, by rw [ByteArray.size_extract]; omega, by rw [ns_tail, H2.out], rfl⟩
    | false =>
      have h2 : (signOf (ns s)).2 = ns s := HB.out
      have H2 := Lib.hid h2
      clear h2
      go_wp2_with fail
      go_meet
      exact ⟨s, rfl, hs, H2.out.symm, rfl⟩
  case rest =>
  obtain ⟨t, rfl, hts, htn, rfl⟩ := hcut
  have HTN := Lib.hid htn
  have hz2 : Z = (match ns t with
    | a :: c :: r => if a = 48 ∧ (low c = 98 ∨ low c = 111 ∨ low c = 120) then uRun (decide (low c = 120)) 48 r else uRun false 94 (a :: c :: r)
    | r => uRun false 94 r) := by rw [HZ.out, htn]; rfl
  have HZ2 := Lib.hid hz2
  clear htn hz2
  go_upto_region 6 with fail
  go_cut [46] from 21 to 46 (fun x wx => ∃ b : Bool, x = .bool b ∧ (if b then ∃ (h : 1 < t.size) (hx : Bool), low (t[1]'h).toNat = (if hx then 120 else low (t[1]'h).toNat) ∧ (hx = false → low (t[1]'h).toNat ≠ 120) ∧ Z = uRun hx 48 ((ns t).drop 2) else Z = uRun false 94 (ns t)) ∧ wx = wc)
  case first =>
    by_cases h2 : 1 < t.size
    · have hd : decide ((2 : Int) ≤ (t.size : Int)) = true := decide_eq_true (by omega)
      have h0 : 0 < t.size := by omega
      have e0 := ns_drop t 0 h0
      have e1 := ns_drop t 1 h2
      obtain ⟨x, hx⟩ : ∃ x : Nat, (t[0]'h0).toNat = x := ⟨_, rfl⟩
      obtain ⟨y, hy⟩ : ∃ y : Nat, (t[1]'h2).toNat = y := ⟨_, rfl⟩
      have hy256 : y < 256 := by rw [← hy]; exact ns_lt t 1 h2
      rw [List.drop_zero, Nat.zero_add, hx, e1, hy] at e0
      obtain ⟨r, hr⟩ : ∃ r, r = (ns t).drop 2 := ⟨_, rfl⟩
      have e0' : ns t = x :: y :: r := by rw [hr]; exact e0
      have hz3 : Z = if x = 48 ∧ (low y = 98 ∨ low y = 111 ∨ low y = 120) then uRun (decide (low y = 120)) 48 r else uRun false 94 (x :: y :: r) := by
        rw [HZ2.out, e0']
      rw [← e0', hr] at hz3
      have HZ3 := Lib.hid hz3
      clear hz3 e0 e1 e0' hr
      by_cases hx48 : x = 48
      · obtain ⟨l, hl⟩ : ∃ l, l = low y := ⟨_, rfl⟩
        have HLW := Lib.hid (lower_any y hy256)
        rw [← hl] at HLW
        have HLL := Lib.hid hl
        clear hl
        subst hx48
        rcases (show l = 98 ∨ l = 111 ∨ l = 120 ∨ (l ≠ 98 ∧ l ≠ 111 ∧ l ≠ 120) by omega) with h | h | h | ⟨g1, g2, g3⟩
        · subst h
          have HF := Lib.hid (show Z = uRun false 48 ((ns t).drop 2) by rw [HZ3.out, ← HLL.out, if_pos ⟨rfl, .inl rfl⟩]; rfl)
          go_wp2_with (refine (HLW.out _).mono ?_; rintro e w' ⟨rfl, rfl⟩)
          go_meet
          exact ⟨true, rfl, ⟨h2, false, rfl, fun _ => by rw [hy, ← HLL.out]; decide, HF.out⟩, rfl⟩
        · subst h
          have HF := Lib.hid (show Z = uRun false 48 ((ns t).drop 2) by rw [HZ3.out, ← HLL.out, if_pos ⟨rfl, .inr (.inl rfl)⟩]; rfl)
          go_wp2_with (refine (HLW.out _).mono ?_; rintro e w' ⟨rfl, rfl⟩)
          go_meet
          exact ⟨true, rfl, ⟨h2, false, rfl, fun _ => by rw [hy, ← HLL.out]; decide, HF.out⟩, rfl⟩
        · subst h
          have HF := Lib.hid (show Z = uRun true 48 ((ns t).drop 2) by rw [HZ3.out, ← HLL.out, if_pos ⟨rfl, .inr (.inr rfl)⟩]; rfl)
          go_wp2_with (refine (HLW.out _).mono ?_; rintro e w' ⟨rfl, rfl⟩)
          go_meet
          exact ⟨true, rfl, ⟨h2, true, by rw [hy, ← HLL.out]; rfl, (fun h => by cases h), HF.out⟩, rfl⟩
        · have b1 : ((l : Int) == 98) = false := beq_eq_false_iff_ne.2 (by omega)
          have b2 : ((l : Int) == 111) = false := beq_eq_false_iff_ne.2 (by omega)
          have b3 : ((l : Int) == 120) = false := beq_eq_false_iff_ne.2 (by omega)
          have HF := Lib.hid (show Z = uRun false 94 (ns t) by rw [HZ3.out, ← HLL.out, if_neg (by omega)])
          go_wp2_with (refine (HLW.out _).mono ?_; rintro e w' ⟨rfl, rfl⟩)
          go_meet
          exact ⟨false, rfl, HF.out, rfl⟩
      · have b1 : ((x : Int) == 48) = false := beq_eq_false_iff_ne.2 (by omega)
        have HF := Lib.hid (show Z = uRun false 94 (ns t) by rw [HZ3.out, if_neg (fun h => hx48 h.1)])
        go_wp2_with fail
        go_meet
        exact ⟨false, rfl, HF.out, rfl⟩
    · have hd : decide ((2 : Int) ≤ (t.size : Int)) = false := decide_eq_false (by omega)
      have HF := Lib.hid (show Z = uRun false 94 (ns t) by
        have hlen : (ns t).length ≤ 1 := by rw [ns_len]; omega
        rw [HZ2.out]
        match hm : ns t with
        | [] => rfl
        | [_] => rfl
        | a :: b :: r => rw [hm] at hlen; simp at hlen)
      go_wp2_with fail
      go_meet
      exact ⟨false, rfl, HF.out, rfl⟩
  case rest =>
  obtain ⟨b, rfl, hb, rfl⟩ := hcut
  have HB2 := Lib.hid hb
  clear hb HB
  go_upto_if 46 with fail
  go_cut [3, 4, 5] from 47 to 50 (fun i j h wx => ∃ (i0 j0 : Nat) (hx : Bool), i = .int .i32 i0 ∧ j = .int .i64 j0 ∧ h = .bool hx ∧ j0 ≤ t.size ∧ i0 ≤ 1000 ∧ Z = uRun hx i0 ((ns t).drop j0) ∧ wx = wc)
  case first =>
    cases b with
    | true =>
      obtain ⟨h1, hx, h2, h3, h4⟩ := HB2.out
      obtain ⟨y, hy⟩ : ∃ y : Nat, (t[1]'h1).toNat = y := ⟨_, rfl⟩
      have hy256 : y < 256 := by rw [← hy]; exact ns_lt t 1 h1
      rw [hy] at h2 h3
      obtain ⟨l, hl⟩ : ∃ l, l = low y := ⟨_, rfl⟩
      have HLW := Lib.hid (lower_any y hy256)
      rw [← hl] at HLW h2 h3
      have HF := Lib.hid h4
      clear hl h4
      cases hx with
      | true =>
        have h5 : l = 120 := h2
        subst h5
        clear h2 h3
        go_wp2_with (refine (HLW.out _).mono ?_; rintro e w' ⟨rfl, rfl⟩)
        go_meet
        exact ⟨48, 2, true, rfl, rfl, rfl, h1, by decide, HF.out, rfl⟩
      | false =>
        have h5 := h3 rfl
        have b1 : ((l : Int) == 120) = false := beq_eq_false_iff_ne.2 (by omega)
        clear h2 h3 h5
        go_wp2_with (refine (HLW.out _).mono ?_; rintro e w' ⟨rfl, rfl⟩)
        go_meet
        exact ⟨48, 2, false, rfl, rfl, rfl, h1, by decide, HF.out, rfl⟩
    | false =>
      have h4 : Z = uRun false 94 (ns t) := HB2.out
      have HF := Lib.hid h4
      clear h4
      go_wp2_with fail
      go_meet
      exact ⟨94, 0, false, rfl, rfl, rfl, Nat.zero_le _, by decide, by rw [List.drop_zero]; exact HF.out, rfl⟩
  case rest =>
  obtain ⟨i0, j0, hx, rfl, rfl, rfl, hj0, hi0, hz4, rfl⟩ := hcut
  have HZ4 := Lib.hid hz4
  clear hz4
  go_wp2_with fail
  go_loop [3, 4] (fun i j => ∃ (a k : Nat), i = .int .i32 a ∧ j = .int .i64 k ∧ k ≤ t.size ∧ a ≤ 1000 ∧ Z = uRun hx a ((ns t).drop k)) (fun i j => t.size - (intOf j).toNat)
  case atStart => exact ⟨i0, j0, rfl, rfl, hj0, hi0, HZ4.out⟩
  case round =>
    obtain ⟨a, k, rfl, rfl, hk, ha, hz⟩ := hrel
    by_cases hlt : k < t.size
    · have hdr := ns_drop t k hlt
      have hx256 := ns_lt t k hlt
      obtain ⟨x, hxe⟩ : ∃ x : Nat, (t[k]'hlt).toNat = x := ⟨_, rfl⟩
      rw [hxe] at hdr hx256
      have hz5 : Z = uRun hx a (x :: (ns t).drop (k + 1)) := by rw [hz, hdr]
      have HZ5 := Lib.hid hz5
      obtain ⟨l, hl⟩ : ∃ l, l = low x := ⟨_, rfl⟩
      have HLW := Lib.hid (lower_any x hx256)
      rw [← hl] at HLW
      have HL := Lib.hid hl
      have hd : decide (k < t.size) = true := decide_eq_true hlt
      clear hz hz5 hdr hl
      by_cases hdg : 48 ≤ x ∧ x ≤ 57
      · have g1 : decide ((48 : Int) ≤ (x : Int)) = true := decide_eq_true (by omega)
        have g2 : decide ((x : Int) ≤ 57) = true := decide_eq_true (by omega)
        have HF := Lib.hid (HZ5.out.trans (uRun_dig (.inl hdg)))
        clear hdg
        go_wp2_with fail
        go_round
        case rel => exact ⟨48, k + 1, rfl, by go_num, by omega, by decide, HF.out⟩
        case measure => simp [intOf]; omega
      have hdc : x < 48 ∨ (48 ≤ x ∧ 57 < x) := by omega
      by_cases hxd : hx = true ∧ 97 ≤ l ∧ l ≤ 102
      · obtain ⟨rfl, h97, h102⟩ := hxd
        have g3 : decide ((97 : Int) ≤ (l : Int)) = true := decide_eq_true (by omega)
        have g4 : decide ((l : Int) ≤ 102) = true := decide_eq_true (by omega)
        have HF := Lib.hid (HZ5.out.trans (uRun_dig (.inr ⟨rfl, by rw [← HL.out]; exact h97, by rw [← HL.out]; exact h102⟩)))
        rcases hdc with hdc | ⟨_, hdc⟩
        · have g1 : decide ((48 : Int) ≤ (x : Int)) = false := decide_eq_false (by omega)
          go_wp2_with (refine (HLW.out _).mono ?_; rintro e w' ⟨rfl, rfl⟩)
          go_round
          case rel => exact ⟨48, k + 1, rfl, by go_num, by omega, by decide, HF.out⟩
          case measure => simp [intOf]; omega
        · have g1 : decide ((48 : Int) ≤ (x : Int)) = true := decide_eq_true (by omega)
          have g2 : decide ((x : Int) ≤ 57) = false := decide_eq_false (by omega)
          go_wp2_with (refine (HLW.out _).mono ?_; rintro e w' ⟨rfl, rfl⟩)
          go_round
          case rel => exact ⟨48, k + 1, rfl, by go_num, by omega, by decide, HF.out⟩
          case measure => simp [intOf]; omega
      have HXD := Lib.hid hxd
      have HDG := Lib.hid hdg
      have hcond : ¬ ((48 ≤ x ∧ x ≤ 57) ∨ (hx = true ∧ 97 ≤ low x ∧ low x ≤ 102)) := by
        rw [← HL.out]
        rintro (h | h)
        · exact hdg h
        · exact hxd h
      have HCND := Lib.hid hcond
      clear hxd hdg hcond
      by_cases h95 : x = 95
      · have b95 : ((x : Int) == 95) = true := by rw [h95]; rfl
        have hz6 := HZ5.out
        rw [h95] at hz6
        have HZ6 := Lib.hid hz6
        clear h95 hz6
        by_cases ha48 : a = 48
        · subst ha48
          have HF := Lib.hid (show Z = uRun hx 95 ((ns t).drop (k + 1)) by rw [HZ6.out, uRun_us, if_pos rfl])
          rcases hdc with hdc | ⟨_, hdc⟩
          · have g1 : decide ((48 : Int) ≤ (x : Int)) = false := decide_eq_false (by omega)
            cases hx with
            | false =>
              go_wp2_with (refine (HLW.out _).mono ?_; rintro e w' ⟨rfl, rfl⟩)
              go_round
              case rel => exact ⟨95, k + 1, rfl, by go_num, by omega, by decide, HF.out⟩
              case measure => simp [intOf]; omega
            | true =>
              have hlc : l < 97 ∨ (97 ≤ l ∧ 102 < l) := by
                have := HXD.out
                simp at this
                omega
              rcases hlc with hlc | ⟨_, hlc⟩
              · have g3 : decide ((97 : Int) ≤ (l : Int)) = false := decide_eq_false (by omega)
                go_wp2_with (refine (HLW.out _).mono ?_; rintro e w' ⟨rfl, rfl⟩)
                go_round
                case rel => exact ⟨95, k + 1, rfl, by go_num, by omega, by decide, HF.out⟩
                case measure => simp [intOf]; omega
              · have g3 : decide ((97 : Int) ≤ (l : Int)) = true := decide_eq_true (by omega)
                have g4 : decide ((l : Int) ≤ 102) = false := decide_eq_false (by omega)
                go_wp2_with (refine (HLW.out _).mono ?_; rintro e w' ⟨rfl, rfl⟩)
                go_round
                case rel => exact ⟨95, k + 1, rfl, by go_num, by omega, by decide, HF.out⟩
                case measure => simp [intOf]; omega
          · have g1 : decide ((48 : Int) ≤ (x : Int)) = true := decide_eq_true (by omega)
            have g2 : decide ((x : Int) ≤ 57) = false := decide_eq_false (by omega)
            cases hx with
            | false =>
              go_wp2_with (refine (HLW.out _).mono ?_; rintro e w' ⟨rfl, rfl⟩)
              go_round
              case rel => exact ⟨95, k + 1, rfl, by go_num, by omega, by decide, HF.out⟩
              case measure => simp [intOf]; omega
            | true =>
              have hlc : l < 97 ∨ (97 ≤ l ∧ 102 < l) := by
                have := HXD.out
                simp at this
                omega
              rcases hlc with hlc | ⟨_, hlc⟩
              · have g3 : decide ((97 : Int) ≤ (l : Int)) = false := decide_eq_false (by omega)
                go_wp2_with (refine (HLW.out _).mono ?_; rintro e w' ⟨rfl, rfl⟩)
                go_round
                case rel => exact ⟨95, k + 1, rfl, by go_num, by omega, by decide, HF.out⟩
                case measure => simp [intOf]; omega
              · have g3 : decide ((97 : Int) ≤ (l : Int)) = true := decide_eq_true (by omega)
                have g4 : decide ((l : Int) ≤ 102) = false := decide_eq_false (by omega)
                go_wp2_with (refine (HLW.out _).mono ?_; rintro e w' ⟨rfl, rfl⟩)
                go_round
                case rel => exact ⟨95, k + 1, rfl, by go_num, by omega, by decide, HF.out⟩
                case measure => simp [intOf]; omega
        · have b1 : ((a : Int) != 48) = true := bne_iff_ne.2 (by omega)
          have HF := Lib.hid (show Z = false by rw [HZ6.out, uRun_us, if_neg ha48])
          clear ha48
          rcases hdc with hdc | ⟨_, hdc⟩
          · have g1 : decide ((48 : Int) ≤ (x : Int)) = false := decide_eq_false (by omega)
            cases hx with
            | false =>
              go_wp2_with (refine (HLW.out _).mono ?_; rintro e w' ⟨rfl, rfl⟩)
              go_ret
              exact ⟨ret_bool HF.out.symm, rfl⟩
            | true =>
              have hlc : l < 97 ∨ (97 ≤ l ∧ 102 < l) := by
                have := HXD.out
                simp at this
                omega
              rcases hlc with hlc | ⟨_, hlc⟩
              · have g3 : decide ((97 : Int) ≤ (l : Int)) = false := decide_eq_false (by omega)
                go_wp2_with (refine (HLW.out _).mono ?_; rintro e w' ⟨rfl, rfl⟩)
                go_ret
                exact ⟨ret_bool HF.out.symm, rfl⟩
              · have g3 : decide ((97 : Int) ≤ (l : Int)) = true := decide_eq_true (by omega)
                have g4 : decide ((l : Int) ≤ 102) = false := decide_eq_false (by omega)
                go_wp2_with (refine (HLW.out _).mono ?_; rintro e w' ⟨rfl, rfl⟩)
                go_ret
                exact ⟨ret_bool HF.out.symm, rfl⟩
          · have g1 : decide ((48 : Int) ≤ (x : Int)) = true := decide_eq_true (by omega)
            have g2 : decide ((x : Int) ≤ 57) = false := decide_eq_false (by omega)
            cases hx with
            | false =>
              go_wp2_with (refine (HLW.out _).mono ?_; rintro e w' ⟨rfl, rfl⟩)
              go_ret
              exact ⟨ret_bool HF.out.symm, rfl⟩
            | true =>
              have hlc : l < 97 ∨ (97 ≤ l ∧ 102 < l) := by
                have := HXD.out
                simp at this
                omega
              rcases hlc with hlc | ⟨_, hlc⟩
              · have g3 : decide ((97 : Int) ≤ (l : Int)) = false := decide_eq_false (by omega)
                go_wp2_with (refine (HLW.out _).mono ?_; rintro e w' ⟨rfl, rfl⟩)
                go_ret
                exact ⟨ret_bool HF.out.symm, rfl⟩
              · have g3 : decide ((97 : Int) ≤ (l : Int)) = true := decide_eq_true (by omega)
                have g4 : decide ((l : Int) ≤ 102) = false := decide_eq_false (by omega)
                go_wp2_with (refine (HLW.out _).mono ?_; rintro e w' ⟨rfl, rfl⟩)
                go_ret
                exact ⟨ret_bool HF.out.symm, rfl⟩
      · have b95 : ((x : Int) == 95) = false := beq_eq_false_iff_ne.2 (by omega)
        by_cases ha95 : a = 95
        · subst ha95
          have HF := Lib.hid (show Z = false by rw [HZ5.out, uRun_oth HCND.out h95, if_pos rfl])
          rcases hdc with hdc | ⟨_, hdc⟩
          · have g1 : decide ((48 : Int) ≤ (x : Int)) = false := decide_eq_false (by omega)
            cases hx with
            | false =>
              go_wp2_with (refine (HLW.out _).mono ?_; rintro e w' ⟨rfl, rfl⟩)
              go_ret
              exact ⟨ret_bool HF.out.symm, rfl⟩
            | true =>
              have hlc : l < 97 ∨ (97 ≤ l ∧ 102 < l) := by
                have := HXD.out
                simp at this
                omega
              rcases hlc with hlc | ⟨_, hlc⟩
              · have g3 : decide ((97 : Int) ≤ (l : Int)) = false := decide_eq_false (by omega)
                go_wp2_with (refine (HLW.out _).mono ?_; rintro e w' ⟨rfl, rfl⟩)
                go_ret
                exact ⟨ret_bool HF.out.symm, rfl⟩
              · have g3 : decide ((97 : Int) ≤ (l : Int)) = true := decide_eq_true (by omega)
                have g4 : decide ((l : Int) ≤ 102) = false := decide_eq_false (by omega)
                go_wp2_with (refine (HLW.out _).mono ?_; rintro e w' ⟨rfl, rfl⟩)
                go_ret
                exact ⟨ret_bool HF.out.symm, rfl⟩
          · have g1 : decide ((48 : Int) ≤ (x : Int)) = true := decide_eq_true (by omega)
            have g2 : decide ((x : Int) ≤ 57) = false := decide_eq_false (by omega)
            cases hx with
            | false =>
              go_wp2_with (refine (HLW.out _).mono ?_; rintro e w' ⟨rfl, rfl⟩)
              go_ret
              exact ⟨ret_bool HF.out.symm, rfl⟩
            | true =>
              have hlc : l < 97 ∨ (97 ≤ l ∧ 102 < l) := by
                have := HXD.out
                simp at this
                omega
              rcases hlc with hlc | ⟨_, hlc⟩
              · have g3 : decide ((97 : Int) ≤ (l : Int)) = false := decide_eq_false (by omega)
                go_wp2_with (refine (HLW.out _).mono ?_; rintro e w' ⟨rfl, rfl⟩)
                go_ret
                exact ⟨ret_bool HF.out.symm, rfl⟩
              · have g3 : decide ((97 : Int) ≤ (l : Int)) = true := decide_eq_true (by omega)
                have g4 : decide ((l : Int) ≤ 102) = false := decide_eq_false (by omega)
                go_wp2_with (refine (HLW.out _).mono ?_; rintro e w' ⟨rfl, rfl⟩)
                go_ret
                exact ⟨ret_bool HF.out.symm, rfl⟩
        · have b1 : ((a : Int) == 95) = false := beq_eq_false_iff_ne.2 (by omega)
          have HF := Lib.hid (show Z = uRun hx 33 ((ns t).drop (k + 1)) by rw [HZ5.out, uRun_oth HCND.out h95, if_neg ha95])
          clear ha95
          rcases hdc with hdc | ⟨_, hdc⟩
          · have g1 : decide ((48 : Int) ≤ (x : Int)) = false := decide_eq_false (by omega)
            cases hx with
            | false =>
              go_wp2_with (refine (HLW.out _).mono ?_; rintro e w' ⟨rfl, rfl⟩)
              go_round
              case rel => exact ⟨33, k + 1, rfl, by go_num, by omega, by decide, HF.out⟩
              case measure => simp [intOf]; omega
            | true =>
              have hlc : l < 97 ∨ (97 ≤ l ∧ 102 < l) := by
                have := HXD.out
                simp at this
                omega
              rcases hlc with hlc | ⟨_, hlc⟩
              · have g3 : decide ((97 : Int) ≤ (l : Int)) = false := decide_eq_false (by omega)
                go_wp2_with (refine (HLW.out _).mono ?_; rintro e w' ⟨rfl, rfl⟩)
                go_round
                case rel => exact ⟨33, k + 1, rfl, by go_num, by omega, by decide, HF.out⟩
                case measure => simp [intOf]; omega
              · have g3 : decide ((97 : Int) ≤ (l : Int)) = true := decide_eq_true (by omega)
                have g4 : decide ((l : Int) ≤ 102) = false := decide_eq_false (by omega)
                go_wp2_with (refine (HLW.out _).mono ?_; rintro e w' ⟨rfl, rfl⟩)
                go_round
                case rel => exact ⟨33, k + 1, rfl, by go_num, by omega, by decide, HF.out⟩
                case measure => simp [intOf]; omega
          · have g1 : decide ((48 : Int) ≤ (x : Int)) = true := decide_eq_true (by omega)
            have g2 : decide ((x : Int) ≤ 57) = false := decide_eq_false (by omega)
            cases hx with
            | false =>
              go_wp2_with (refine (HLW.out _).mono ?_; rintro e w' ⟨rfl, rfl⟩)
              go_round
              case rel => exact ⟨33, k + 1, rfl, by go_num, by omega, by decide, HF.out⟩
              case measure => simp [intOf]; omega
            | true =>
              have hlc : l < 97 ∨ (97 ≤ l ∧ 102 < l) := by
                have := HXD.out
                simp at this
                omega
              rcases hlc with hlc | ⟨_, hlc⟩
              · have g3 : decide ((97 : Int) ≤ (l : Int)) = false := decide_eq_false (by omega)
                go_wp2_with (refine (HLW.out _).mono ?_; rintro e w' ⟨rfl, rfl⟩)
                go_round
                case rel => exact ⟨33, k + 1, rfl, by go_num, by omega, by decide, HF.out⟩
                case measure => simp [intOf]; omega
              · have g3 : decide ((97 : Int) ≤ (l : Int)) = true := decide_eq_true (by omega)
                have g4 : decide ((l : Int) ≤ 102) = false := decide_eq_false (by omega)
                go_wp2_with (refine (HLW.out _).mono ?_; rintro e w' ⟨rfl, rfl⟩)
                go_round
                case rel => exact ⟨33, k + 1, rfl, by go_num, by omega, by decide, HF.out⟩
                case measure => simp [intOf]; omega
    · obtain rfl : k = t.size := by omega
      have h1 := ns_end t t.size (Nat.le_refl _)
      have HF := Lib.hid (show Z = decide (a ≠ 95) by rw [hz, h1]; rfl)
      clear hz h1
      by_cases ha95 : a = 95
      · subst ha95
        go_wp2_with fail
        go_ret
        exact ⟨ret_bool (by rw [HF.out]; rfl), rfl⟩
      · have b1 : ((a : Int) != 95) = true := bne_iff_ne.2 (by omega)
        have HA := Lib.hid ha95
        clear ha95
        go_wp2_with fail
        go_ret
        exact ⟨ret_bool (by rw [HF.out, decide_eq_true HA.out]), rfl⟩
end Go.Proofs.YtiebedcldbmlhaaGreatDoor.Fl
