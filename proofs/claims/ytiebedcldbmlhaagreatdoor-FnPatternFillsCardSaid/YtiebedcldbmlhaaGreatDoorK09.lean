/-
  Joined: readFloat.
  Conditions: each law's own.
-/
import Derived.Test.YtiebedcldbmlhaaGreatDoorK08
import Derived.Test.YtiebedcldbmlhaaGreatDoorK01
namespace Go.Proofs.YtiebedcldbmlhaaGreatDoor.Fl
open Go.RowKit
set_option linter.unusedVariables false

theorem low_bits_fin : ∀ i : Fin 256, bits .or .u8 ((i.val : Nat) : Int) 32 = ((low i.val : Nat) : Int) ∧ low i.val < 256 := by decide +kernel
theorem low_lt {c : Nat} (h : c < 256) : low c < 256 := (low_bits_fin ⟨c, h⟩).2
theorem lower_any (c : Nat) (h : c < 256) (w : World) : Calls Tryz.prog 109 #[.int .u8 c] w fun e w' => e = .returned (.int .u8 (low c : Nat)) ∧ w' = w := by
  have := Tryz.internal_strconv_lower c w
  rw [(low_bits_fin ⟨c, h⟩).1] at this
  exact this

theorem sign_cases (l : List Nat) (c : Nat) (r : List Nat) (h : l = c :: r) : (c = 43 ∧ signOf l = (false, r)) ∨ (c = 45 ∧ signOf l = (true, r)) ∨ (c ≠ 43 ∧ c ≠ 45 ∧ signOf l = (false, c :: r)) := by
  subst h
  by_cases h1 : c = 43
  · exact .inl ⟨h1, by simp [signOf, h1]⟩
  · by_cases h2 : c = 45
    · exact .inr (.inl ⟨h2, by simp [signOf, h2]⟩)
    · exact .inr (.inr ⟨h1, h2, by simp [signOf, h1, h2]⟩)

theorem run_step {hx : Bool} {r r' : Rf} {c : Nat} {l : List Nat} (h : rfStep hx r c = some r') : rfRun hx r (c :: l) = rfRun hx r' l := by
  rw [rfRun, h]
theorem run_stop {hx : Bool} {r : Rf} {c : Nat} {l : List Nat} (h : rfStep hx r c = none) : rfRun hx r (c :: l) = (r, c :: l) := by
  rw [rfRun, h]
/-- The bounds of what has been read. -/
structure RB (hx : Bool) (r : Rf) (k : Nat) : Prop where
  man : r.man < base hx ^ r.nm
  nm : r.nm ≤ maxd hx
  nmnd : r.nm ≤ r.nd
  nd : r.nd ≤ k
  lo : -(k : Int) ≤ r.dp
  hi : r.dp ≤ k
theorem RB.start (hx : Bool) (k : Nat) : RB hx rf0 k := ⟨by cases hx <;> decide, Nat.zero_le _, Nat.le_refl _, Nat.zero_le _, by show -(k : Int) ≤ 0; omega, by show (0 : Int) ≤ k; omega⟩
theorem low_hi {c : Nat} (h1 : 97 ≤ low c) (h2 : low c ≤ 102) : low c - 87 < 16 := by omega
theorem RB.step {hx : Bool} {r r' : Rf} {k c : Nat} (h : RB hx r k) (hs : rfStep hx r c = some r') (hc : c < 256) : RB hx r' (k + 1) := by
  have h1 := h.man; have h2 := h.nm; have h3 := h.nmnd; have h4 := h.nd; have h5 := h.lo; have h6 := h.hi
  unfold rfStep at hs
  split at hs
  · obtain rfl := Option.some.inj hs
    exact ⟨h1, h2, h3, by show r.nd ≤ k + 1; omega, by show -((k + 1 : Nat) : Int) ≤ r.dp; omega, by show r.dp ≤ ((k + 1 : Nat) : Int); omega⟩
  · split at hs
    · split at hs
      · cases hs
      · obtain rfl := Option.some.inj hs
        exact ⟨h1, h2, h3, by show r.nd ≤ k + 1; omega, by show -((k + 1 : Nat) : Int) ≤ (r.nd : Int); omega, by show (r.nd : Int) ≤ ((k + 1 : Nat) : Int); omega⟩
    · split at hs
      · rename_i hd
        split at hs
        · obtain rfl := Option.some.inj hs
          exact ⟨h1, h2, h3, by show r.nd ≤ k + 1; omega, by show -((k + 1 : Nat) : Int) ≤ r.dp - 1; omega, by show r.dp - 1 ≤ ((k + 1 : Nat) : Int); omega⟩
        · split at hs
          · rename_i hm
            obtain rfl := Option.some.inj hs
            refine ⟨?_, by show r.nm + 1 ≤ maxd hx; omega, by show r.nm + 1 ≤ r.nd + 1; omega, by show r.nd + 1 ≤ k + 1; omega, by show -((k + 1 : Nat) : Int) ≤ r.dp; omega, by show r.dp ≤ ((k + 1 : Nat) : Int); omega⟩
            show r.man * base hx + (c - 48) < base hx ^ (r.nm + 1)
            rw [Nat.pow_succ]
            have hb : 10 ≤ base hx := by cases hx <;> decide
            have : (r.man + 1) * base hx ≤ base hx ^ r.nm * base hx := Nat.mul_le_mul_right _ h1
            rw [Nat.add_mul] at this
            omega
          · obtain rfl := Option.some.inj hs
            exact ⟨h1, h2, by show r.nm ≤ r.nd + 1; omega, by show r.nd + 1 ≤ k + 1; omega, by show -((k + 1 : Nat) : Int) ≤ r.dp; omega, by show r.dp ≤ ((k + 1 : Nat) : Int); omega⟩
      · split at hs
        · rename_i hh
          obtain ⟨rfl, ha, hb⟩ := hh
          split at hs
          · rename_i hm
            obtain rfl := Option.some.inj hs
            refine ⟨?_, by show r.nm + 1 ≤ maxd true; omega, by show r.nm + 1 ≤ r.nd + 1; omega, by show r.nd + 1 ≤ k + 1; omega, by show -((k + 1 : Nat) : Int) ≤ r.dp; omega, by show r.dp ≤ ((k + 1 : Nat) : Int); omega⟩
            show r.man * 16 + (low c - 87) < 16 ^ (r.nm + 1)
            have h1' : r.man < 16 ^ r.nm := h1
            rw [Nat.pow_succ]
            have : (r.man + 1) * 16 ≤ 16 ^ r.nm * 16 := Nat.mul_le_mul_right _ h1'
            omega
          · obtain rfl := Option.some.inj hs
            exact ⟨h1, h2, by show r.nm ≤ r.nd + 1; omega, by show r.nd + 1 ≤ k + 1; omega, by show -((k + 1 : Nat) : Int) ≤ r.dp; omega, by show r.dp ≤ ((k + 1 : Nat) : Int); omega⟩
        · cases hs
theorem RB.fits {hx : Bool} {r : Rf} {k : Nat} (h : RB hx r k) : r.man < 18446744073709551616 := by
  have h1 := h.man
  have h2 : base hx ^ r.nm ≤ base hx ^ maxd hx := Nat.pow_le_pow_right (by cases hx <;> decide) h.nm
  have h3 : base hx ^ maxd hx ≤ 18446744073709551616 := by cases hx <;> decide
  omega

theorem results_tmp7 {fn : Func} {t u v x y z q : Tmp} (h : fn.results = #[.tmp t, .tmp u, .tmp v, .tmp x, .tmp y, .tmp z, .tmp q]) (tmps : Array Value) (P : Program) (w : World) :
    (results fn tmps).run P w = .ok (.tuple #[tmps.getD t undef, tmps.getD u undef, tmps.getD v undef, tmps.getD x undef, tmps.getD y undef, tmps.getD z undef, tmps.getD q undef]) w := by
  simp [results, h]
theorem expOf_no {hx us : Bool} {P : Int} {c : Nat} {r : List Nat} (h : low c ≠ if hx then 112 else 101) : expOf hx us P (c :: r) = if hx then none else some (P, us, c :: r) := by
  rw [expOf, if_neg h]
theorem expOf_yes {hx us : Bool} {P : Int} {c : Nat} {l : List Nat} (h : low c = if hx then 112 else 101) : expOf hx us P (c :: l) = expTail us P (signOf l).1 (signOf l).2 := by
  rw [expOf, if_pos h]
/-- Whether an exponent follows. -/
def IsE (s : ByteArray) (k X : Nat) (t : Bool) : Prop := (t = true → ∃ h : k < s.size, low (s[k]'h).toNat = X) ∧ (t = false → (ns s).drop k = [] ∨ ∃ c r, (ns s).drop k = c :: r ∧ low c ≠ X)
/-- What readFloat hands back. -/
def RdIs (x : Option Rd) (man : Nat) (exp : Int) (neg tr hx : Bool) (n : Nat) (ok : Bool) : Prop :=
  match x with
  | some r => ok = true ∧ r = ⟨man, exp, neg, tr, hx, n⟩
  | none => ok = false
def RdPost (l : List Nat) (w : World) (e : Ending) (w' : World) : Prop :=
  (∃ (man : Nat) (exp : Int) (neg tr hx : Bool) (n : Nat) (ok : Bool), e = .returned (.tuple #[.int .u64 man, .int .i64 exp, .bool neg, .bool tr, .bool hx, .int .i64 n, .bool ok]) ∧ RdIs (readF l) man exp neg tr hx n ok ∧ man < 18446744073709551616 ∧ (hx = false → man < 10000000000000000000) ∧ n ≤ l.length) ∧ w' = w
theorem rd_none {l : List Nat} {w : World} {man : Nat} {exp : Int} {neg tr hx : Bool} {n : Nat} (h : readF l = none) (hm : man < 18446744073709551616) (hm2 : hx = false → man < 10000000000000000000) (hn : n ≤ l.length) :
    RdPost l w (.returned (.tuple #[.int .u64 man, .int .i64 exp, .bool neg, .bool tr, .bool hx, .int .i64 n, .bool false])) w :=
  ⟨⟨man, exp, neg, tr, hx, n, false, rfl, by rw [h]; rfl, hm, hm2, hn⟩, rfl⟩
theorem rd_some {l : List Nat} {w : World} {man : Nat} {exp : Int} {neg tr hx : Bool} {n : Nat} (h : readF l = some ⟨man, exp, neg, tr, hx, n⟩) (hm : man < 18446744073709551616) (hm2 : hx = false → man < 10000000000000000000) (hn : n ≤ l.length) :
    RdPost l w (.returned (.tuple #[.int .u64 man, .int .i64 exp, .bool neg, .bool tr, .bool hx, .int .i64 n, .bool true])) w :=
  ⟨⟨man, exp, neg, tr, hx, n, true, rfl, by rw [h]; exact ⟨rfl, rfl⟩, hm, hm2, hn⟩, rfl⟩

/-- The four ways in which a text is hexadecimal or not. -/
theorem hex_cases (s : ByteArray) (k : Nat) :
    (¬ k + 2 < s.size ∧ hexOf ((ns s).drop k) = (false, (ns s).drop k)) ∨
    (∃ h1 : k + 2 < s.size, (s[k]'(by omega)).toNat ≠ 48 ∧ hexOf ((ns s).drop k) = (false, (ns s).drop k)) ∨
    (∃ h1 : k + 2 < s.size, (s[k]'(by omega)).toNat = 48 ∧ low (s[k + 1]'(by omega)).toNat ≠ 120 ∧ hexOf ((ns s).drop k) = (false, (ns s).drop k)) ∨
    (∃ h1 : k + 2 < s.size, (s[k]'(by omega)).toNat = 48 ∧ low (s[k + 1]'(by omega)).toNat = 120 ∧ hexOf ((ns s).drop k) = (true, (ns s).drop (k + 2))) := by
  by_cases h : k + 2 < s.size
  · have e1 := ns_drop s k (by omega)
    have e2 := ns_drop s (k + 1) (by omega)
    have e3 := ns_drop s (k + 2) (by omega)
    rw [show k + 1 + 1 = k + 2 by omega] at e2
    rw [e2, e3] at e1
    have hh : hexOf ((ns s).drop k) = if (s[k]'(by omega)).toNat = 48 ∧ low (s[k + 1]'(by omega)).toNat = 120 then (true, (ns s).drop (k + 2)) else (false, (ns s).drop k) := by
      rw [e1, e3]; rfl
    by_cases h1 : (s[k]'(by omega)).toNat = 48
    · by_cases h2 : low (s[k + 1]'(by omega)).toNat = 120
      · exact .inr (.inr (.inr ⟨h, h1, h2, by rw [hh, if_pos ⟨h1, h2⟩]⟩))
      · exact .inr (.inr (.inl ⟨h, h1, h2, by rw [hh, if_neg (fun x => h2 x.2)]⟩))
    · exact .inr (.inl ⟨h, h1, by rw [hh, if_neg (fun x => h1 x.1)]⟩)
  · refine .inl ⟨h, ?_⟩
    have hlen : ((ns s).drop k).length ≤ 2 := by rw [List.length_drop, ns_len]; omega
    match hm : (ns s).drop k with
    | [] => rfl
    | [_] => rfl
    | [_, _] => rfl
    | a :: b :: c :: r => rw [hm] at hlen; simp at hlen

set_option maxHeartbeats 2000000 in
set_option maxRecDepth 100000 in
theorem readf_any (s : ByteArray) (w : World) (hs : s.size ≤ 1000000000) (h0 : 0 < s.size) (hU : ∀ (t : ByteArray) (w : World), t.size ≤ 1000000000 → Calls Tryz.prog 110 #[.string t] w fun e w' => e = .returned (.bool (uOk (ns t))) ∧ w' = w) :
    Calls Tryz.prog 112 #[.string s] w (RdPost (ns s) w) := by
  have hne : decide ((s.size : Int) ≤ 0) = false := decide_eq_false (by omega)
  have hpos : (0 : Int) < (s.size : Int) := by omega
  have hemp : decide (s = ByteArray.empty) = false := decide_eq_false (by rintro rfl; exact absurd h0 (by decide))
  obtain ⟨c, hc⟩ : ∃ c : Nat, (s[0]'h0).toNat = c := ⟨_, rfl⟩
  obtain ⟨l, hl⟩ : ∃ l, l = ns s := ⟨_, rfl⟩
  have hcons : l = c :: (ns s).drop 1 := by
    have := ns_drop s 0 h0
    rw [List.drop_zero, Nat.zero_add, hc] at this
    rw [hl]; exact this
  have hsg := sign_cases l c _ hcons
  have HSG := Lib.hid hsg
  have HL := Lib.hid hl
  have HCO := Lib.hid hcons
  clear hsg hl hcons
  go_enter Tryz.func112, Tryz.ntmps112
  go_wp2_with fail
  refine wp_scope_named 0 ?_
  intro R hR
  have HR := Lib.hid hR
  clear hR
  go_upto_block 0 with fail
  go_cut [4, 7] from 28 to 35 (fun n i wx => ∃ (ng : Bool) (k : Nat), n = .bool ng ∧ i = .int .i64 k ∧ k ≤ 1 ∧ k ≤ s.size ∧ signOf l = (ng, (ns s).drop k) ∧ wx = w)
  case first =>
    rcases HSG.out with ⟨h1, h2⟩ | ⟨h1, h2⟩ | ⟨h1, h2, h3⟩
    · subst h1
      have H2 := Lib.hid h2
      clear h2
      go_wp2_with fail
      go_meet
      exact ⟨false, 1, rfl, rfl, Nat.le_refl _, h0, H2.out, rfl⟩
    · subst h1
      have H2 := Lib.hid h2
      clear h2
      go_wp2_with fail
      go_meet
      exact ⟨true, 1, rfl, rfl, Nat.le_refl _, h0, H2.out, rfl⟩
    · have b1 : ((c : Int) == 43) = false := beq_eq_false_iff_ne.2 (by omega)
      have b2 : ((c : Int) == 45) = false := beq_eq_false_iff_ne.2 (by omega)
      have H2 := Lib.hid h3
      clear h1 h2 h3
      go_wp2_with fail
      go_meet
      exact ⟨false, 0, rfl, rfl, Nat.zero_le _, Nat.zero_le _, by rw [H2.out, List.drop_zero, ← HCO.out, HL.out], rfl⟩
  case rest =>
  obtain ⟨ng, k, rfl, rfl, hk1, hks, hsg, rfl⟩ := hcut
  obtain ⟨l1, hl1⟩ : ∃ l1, l1 = (ns s).drop k := ⟨_, rfl⟩
  rw [← hl1] at hsg
  have HS2 := Lib.hid hsg
  have HL1 := Lib.hid hl1
  have hhex := hex_cases s k
  rw [← hl1] at hhex
  have HHX := Lib.hid hhex
  clear hsg hl1 hhex
  go_upto_region 12 with fail
  go_cut [54] from 36 to 54 (fun x wx => ∃ (hx : Bool) (k2 : Nat), x = .bool hx ∧ k2 = k + (if hx then 2 else 0) ∧ k2 ≤ s.size ∧ hexOf l1 = (hx, (ns s).drop k2) ∧ wx = wc)
  case first =>
    rcases HHX.out with ⟨h1, h2⟩ | ⟨h1, h2, h3⟩ | ⟨h1, h2, h3, h4⟩ | ⟨h1, h2, h3, h4⟩
    · have hd : decide ((k : Int) + 2 < (s.size : Int)) = false := decide_eq_false (by omega)
      have HH := Lib.hid h2
      clear h2
      go_wp2_with fail
      go_meet
      exact ⟨false, k, rfl, rfl, hks, by rw [← HL1.out]; exact HH.out, rfl⟩
    · have hd : decide ((k : Int) + 2 < (s.size : Int)) = true := decide_eq_true (by omega)
      have hk0 : k < s.size := by omega
      obtain ⟨a, ha⟩ : ∃ a : Nat, (s[k]'hk0).toNat = a := ⟨_, rfl⟩
      rw [ha] at h2
      have ha48 : ((a : Int) == 48) = false := beq_eq_false_iff_ne.2 (by omega)
      have HH := Lib.hid h3
      clear h3
      go_wp2_with fail
      go_meet
      exact ⟨false, k, rfl, rfl, hks, by rw [← HL1.out]; exact HH.out, rfl⟩
    · have hd : decide ((k : Int) + 2 < (s.size : Int)) = true := decide_eq_true (by omega)
      have hk0 : k < s.size := by omega
      have hk1' : k + 1 < s.size := by omega
      obtain ⟨a, ha⟩ : ∃ a : Nat, (s[k + 1]'hk1').toNat = a := ⟨_, rfl⟩
      have ha256 : a < 256 := by rw [← ha]; exact ns_lt s (k + 1) hk1'
      rw [ha] at h3
      obtain ⟨b, hb⟩ : ∃ b, b = low a := ⟨_, rfl⟩
      have HLW := Lib.hid (lower_any a ha256)
      rw [← hb] at h3 HLW
      have hb120 : ((b : Int) == 120) = false := beq_eq_false_iff_ne.2 (by omega)
      have HH := Lib.hid h4
      clear h4 hb
      go_wp2_with (refine (HLW.out _).mono ?_; rintro e w' ⟨rfl, rfl⟩)
      go_meet
      exact ⟨false, k, rfl, rfl, hks, by rw [← HL1.out]; exact HH.out, rfl⟩
    · have hd : decide ((k : Int) + 2 < (s.size : Int)) = true := decide_eq_true (by omega)
      have hk0 : k < s.size := by omega
      have hk1' : k + 1 < s.size := by omega
      obtain ⟨a, ha⟩ : ∃ a : Nat, (s[k + 1]'hk1').toNat = a := ⟨_, rfl⟩
      have ha256 : a < 256 := by rw [← ha]; exact ns_lt s (k + 1) hk1'
      rw [ha] at h3
      have HLW := Lib.hid (lower_any a ha256)
      rw [h3] at HLW
      have HH := Lib.hid h4
      clear h4
      go_wp2_with (refine (HLW.out _).mono ?_; rintro e w' ⟨rfl, rfl⟩)
      go_meet
      exact ⟨true, k + 2, rfl, rfl, by omega, HH.out, rfl⟩
  case rest =>
  obtain ⟨hx, k2, rfl, hk2, hk2s, hhx, rfl⟩ := hcut
  have HK2 := Lib.hid hk2
  have HHX2 := Lib.hid hhx
  have hk2b : k2 ≤ 3 := by rw [hk2]; split <;> omega
  clear hk2 hhx
  go_upto_if 54 with fail
  go_cut [6, 7, 10, 11, 12] from 55 to 56 (fun h i b m x wx => ∃ (B M X : Nat), h = .bool hx ∧ i = .int .i64 k2 ∧ b = .int .u64 B ∧ m = .int .i64 M ∧ x = .int .u8 X ∧ B = base hx ∧ M = maxd hx ∧ X = (if hx then 112 else 101) ∧ wx = wc)
  case first =>
    cases hx with
    | true =>
      have hk := HK2.out
      rw [if_pos rfl] at hk
      subst hk
      go_wp2_with fail
      go_meet
      exact ⟨16, 16, 112, rfl, by go_num, rfl, rfl, rfl, rfl, rfl, rfl, rfl⟩
    | false =>
      have hk := HK2.out
      rw [if_neg (by decide), Nat.add_zero] at hk
      subst hk
      go_wp2_with fail
      go_meet
      exact ⟨10, 19, 101, rfl, rfl, rfl, rfl, rfl, rfl, rfl, rfl, rfl⟩
  case rest =>
  obtain ⟨B, M, X, rfl, rfl, rfl, rfl, rfl, hB, hM, hX, rfl⟩ := hcut
  have HB := Lib.hid hB
  have HM := Lib.hid hM
  have HX := Lib.hid hX
  clear hB hM hX
  go_wp2_with fail
  go_step3
  obtain ⟨Z, hZ⟩ : ∃ Z, Z = rfRun hx rf0 ((ns s).drop k2) := ⟨_, rfl⟩
  have HZ := Lib.hid hZ
  clear hZ
  go_upto_block 1 with fail
  go_cut [2, 5, 7, 9, 13, 14, 15, 16, 17, 18] from 57 to 138 (fun a t i u d g n m p _ wx => ∃ (man : Nat) (dot dig : Bool) (nd nm : Nat) (dp : Int) (tr us : Bool) (k : Nat), a = .int .u64 man ∧ t = .bool tr ∧ i = .int .i64 k ∧ u = .bool us ∧ d = .bool dot ∧ g = .bool dig ∧ n = .int .i64 nd ∧ m = .int .i64 nm ∧ p = .int .i64 dp ∧ k2 ≤ k ∧ k ≤ s.size ∧ Z = (⟨man, dot, dig, nd, nm, dp, tr, us⟩, (ns s).drop k) ∧ RB hx ⟨man, dot, dig, nd, nm, dp, tr, us⟩ k ∧ wx = wc)
  case first =>
    go_wp2_with fail
    go_loop [2, 5, 7, 9, 13, 14, 15, 16, 17] (fun a t i u d g n m p => ∃ (man : Nat) (dot dig : Bool) (nd nm : Nat) (dp : Int) (tr us : Bool) (k : Nat), a = .int .u64 man ∧ t = .bool tr ∧ i = .int .i64 k ∧ u = .bool us ∧ d = .bool dot ∧ g = .bool dig ∧ n = .int .i64 nd ∧ m = .int .i64 nm ∧ p = .int .i64 dp ∧ k2 ≤ k ∧ k ≤ s.size ∧ Z = rfRun hx ⟨man, dot, dig, nd, nm, dp, tr, us⟩ ((ns s).drop k) ∧ RB hx ⟨man, dot, dig, nd, nm, dp, tr, us⟩ k) (fun a t i u d g n m p => s.size - (intOf i).toNat)
    case atStart => exact ⟨0, false, false, 0, 0, 0, false, false, k2, rfl, rfl, rfl, rfl, rfl, rfl, rfl, rfl, rfl, Nat.le_refl _, hk2s, HZ.out, RB.start hx k2⟩
    case round =>
      obtain ⟨man, dot, dig, nd, nm, dp, tr, us, k, rfl, rfl, rfl, rfl, rfl, rfl, rfl, rfl, rfl, hkk, hks', hz, hrb⟩ := hrel
      have HRB := Lib.hid hrb
      have hndk : nd ≤ k := hrb.nd
      have hnmn : nm ≤ nd := hrb.nmnd
      have hdp1 : -(k : Int) ≤ dp := hrb.lo
      have hdp2 : dp ≤ k := hrb.hi
      clear hrb
      by_cases hlt : k < s.size
      · rw [ns_drop s k hlt] at hz
        have hx256 := ns_lt s k hlt
        obtain ⟨x, hxe⟩ : ∃ x : Nat, (s[k]'hlt).toNat = x := ⟨_, rfl⟩
        rw [hxe] at hx256 hz
        have HZ2 := Lib.hid hz
        clear hz
        by_cases h95 : x = 95
        · subst h95
          have HST := Lib.hid (show rfStep hx ⟨man, dot, dig, nd, nm, dp, tr, us⟩ 95 = some ⟨man, dot, dig, nd, nm, dp, tr, true⟩ from rfl)
          go_wp2_with fail
          go_round
          case rel => exact ⟨man, dot, dig, nd, nm, dp, tr, true, k + 1, rfl, rfl, by go_num, rfl, rfl, rfl, rfl, rfl, rfl, by omega, by omega, HZ2.out.trans (run_step HST.out), HRB.out.step HST.out (by decide)⟩
          case measure => simp [intOf]; omega
        have b95 : ((x : Int) == 95) = false := beq_eq_false_iff_ne.2 (by omega)
        by_cases h46 : x = 46
        · subst h46
          cases dot with
          | true =>
            have HST := Lib.hid (show rfStep hx ⟨man, true, dig, nd, nm, dp, tr, us⟩ 46 = none from rfl)
            have HZ3 := Lib.hid (HZ2.out.trans (run_stop HST.out))
            rw [← hxe, ← ns_drop s k hlt] at HZ3
            go_wp2_with fail
            go_meet
            exact ⟨man, true, dig, nd, nm, dp, tr, us, k, rfl, rfl, rfl, rfl, rfl, rfl, rfl, rfl, rfl, hkk, hks', HZ3.out, HRB.out, rfl⟩
          | false =>
            have HST := Lib.hid (show rfStep hx ⟨man, false, dig, nd, nm, dp, tr, us⟩ 46 = some ⟨man, true, dig, nd, nm, nd, tr, us⟩ from rfl)
            go_wp2_with fail
            go_round
            case rel => exact ⟨man, true, dig, nd, nm, nd, tr, us, k + 1, rfl, rfl, by go_num, rfl, rfl, rfl, rfl, rfl, rfl, by omega, by omega, HZ2.out.trans (run_step HST.out), HRB.out.step HST.out (by decide)⟩
            case measure => simp [intOf]; omega
        have b46 : ((x : Int) == 46) = false := beq_eq_false_iff_ne.2 (by omega)
        have hst0 := fun (h : Rf) (hh : rfStep hx ⟨man, dot, dig, nd, nm, dp, tr, us⟩ x = some h) => HZ2.out.trans (run_step hh)
        have HST0 := Lib.hid hst0
        clear hst0
        by_cases hdg : 48 ≤ x ∧ x ≤ 57
        · have g1 : decide ((48 : Int) ≤ (x : Int)) = true := decide_eq_true (by omega)
          have g2 : decide ((x : Int) ≤ 57) = true := decide_eq_true (by omega)
          have hx48 : (48 : Int) ≤ (x : Int) := by omega
          have hx57 : (x : Int) ≤ 57 := by omega
          have HDG := Lib.hid hdg
          clear hdg
          by_cases hz0 : x = 48 ∧ nd = 0
          · obtain ⟨rfl, rfl⟩ := hz0
            have HST := Lib.hid (show rfStep hx ⟨man, dot, dig, 0, nm, dp, tr, us⟩ 48 = some ⟨man, dot, true, 0, nm, dp - 1, tr, us⟩ from rfl)
            go_wp2_with fail
            go_round
            case rel => exact ⟨man, dot, true, 0, nm, dp - 1, tr, us, k + 1, rfl, rfl, by go_num, rfl, rfl, rfl, rfl, rfl, rfl, by omega, by omega, HST0.out _ HST.out, HRB.out.step HST.out (by decide)⟩
            case measure => simp [intOf]; omega
          · have hz1 : (((x : Int) == 48) && ((nd : Int) == 0)) = false := by
              by_cases h1 : x = 48
              · have : nd ≠ 0 := fun h2 => hz0 ⟨h1, h2⟩
                rw [Bool.and_eq_false_iff]; right
                exact beq_eq_false_iff_ne.2 (by omega)
              · rw [Bool.and_eq_false_iff]; left
                exact beq_eq_false_iff_ne.2 (by omega)
            have HZ0 := Lib.hid hz0
            clear hz0
            by_cases hnm : nm < maxd hx
            · have hnmM : decide (nm < M) = true := decide_eq_true (by rw [HM.out]; exact hnm)
              have hnmMi : (nm : Int) < (M : Int) := by have := HM.out; omega
              have HST := Lib.hid (show rfStep hx ⟨man, dot, dig, nd, nm, dp, tr, us⟩ x = some ⟨man * base hx + (x - 48), dot, true, nd + 1, nm + 1, dp, tr, us⟩ by
                unfold rfStep
                simp only
                rw [if_neg h95, if_neg h46, if_pos HDG.out, if_neg HZ0.out, if_pos hnm])
              have hfit := (HRB.out.step HST.out hx256).fits
              simp only at hfit
              rw [← HB.out] at hfit
              obtain ⟨p, hp⟩ : ∃ p, p = man * B := ⟨_, rfl⟩
              obtain ⟨d, hd⟩ : ∃ d, d = x - 48 := ⟨_, rfl⟩
              obtain ⟨q, hq⟩ : ∃ q, q = p + d := ⟨_, rfl⟩
              have hd9 : d ≤ 9 := by omega
              have hq64 : q < 18446744073709551616 := by rw [hq, hp, hd]; exact hfit
              have e1 : IntKind.u64.wrap ((man : Int) * (B : Int)) = (p : Int) := by
                have h1 : (man : Int) * (B : Int) = (p : Int) := by rw [hp]; simp
                rw [h1]; exact word_in (by omega)
              have e2 : IntKind.u8.wrap ((x : Int) - 48) = (d : Int) := by rw [IntWalk.u8_in _ (by omega)]; omega
              have e2' : (x : Int) - 48 = (d : Int) := by omega
              have e3 : IntKind.u64.wrap ((p : Int) + (d : Int)) = (q : Int) := by rw [IntWalk.u64_in _ (by omega)]; omega
              have hqv : q = man * base hx + (x - 48) := by rw [hq, hp, hd, HB.out]
              rw [← hqv] at HST
              clear hp hd hq hfit hqv hnm
              by_cases h48 : x = 48
              · have b48 : ((x : Int) == 48) = true := by rw [h48]; rfl
                have bnd : ((nd : Int) == 0) = false := by rw [b48, Bool.true_and] at hz1; exact hz1
                clear h48
                go_wp2_with fail
                go_round
                case rel => exact ⟨q, dot, true, nd + 1, nm + 1, dp, tr, us, k + 1, rfl, rfl, by go_num, rfl, rfl, rfl, by go_num, by go_num, rfl, by omega, by omega, HST0.out _ HST.out, HRB.out.step HST.out hx256⟩
                case measure => simp [intOf]; omega
              · have b48 : ((x : Int) == 48) = false := beq_eq_false_iff_ne.2 (by omega)
                clear h48
                go_wp2_with fail
                go_round
                case rel => exact ⟨q, dot, true, nd + 1, nm + 1, dp, tr, us, k + 1, rfl, rfl, by go_num, rfl, rfl, rfl, by go_num, by go_num, rfl, by omega, by omega, HST0.out _ HST.out, HRB.out.step HST.out hx256⟩
                case measure => simp [intOf]; omega
            · have hnmM : decide (nm < M) = false := decide_eq_false (by rw [HM.out]; exact hnm)
              have hnmMi : ¬ (nm : Int) < (M : Int) := by have := HM.out; omega
              have HST := Lib.hid (show rfStep hx ⟨man, dot, dig, nd, nm, dp, tr, us⟩ x = some ⟨man, dot, true, nd + 1, nm, dp, tr || decide (x ≠ 48), us⟩ by
                unfold rfStep
                simp only
                rw [if_neg h95, if_neg h46, if_pos HDG.out, if_neg HZ0.out, if_neg hnm])
              by_cases h48 : x = 48
              · have b48 : ((x : Int) == 48) = true := by rw [h48]; rfl
                have n48 : ((x : Int) != 48) = false := by rw [h48]; rfl
                have bnd : ((nd : Int) == 0) = false := by rw [b48, Bool.true_and] at hz1; exact hz1
                rw [decide_eq_false (not_not_intro h48), Bool.or_false] at HST
                clear h48
                go_wp2_with fail
                go_round
                case rel => exact ⟨man, dot, true, nd + 1, nm, dp, tr, us, k + 1, rfl, rfl, by go_num, rfl, rfl, rfl, by go_num, rfl, rfl, by omega, by omega, HST0.out _ HST.out, HRB.out.step HST.out hx256⟩
                case measure => simp [intOf]; omega
              · have b48 : ((x : Int) == 48) = false := beq_eq_false_iff_ne.2 (by omega)
                have n48 : ((x : Int) != 48) = true := bne_iff_ne.2 (by omega)
                rw [decide_eq_true h48, Bool.or_true] at HST
                clear h48
                go_wp2_with fail
                go_round
                case rel => exact ⟨man, dot, true, nd + 1, nm, dp, true, us, k + 1, rfl, rfl, by go_num, rfl, rfl, rfl, by go_num, rfl, rfl, by omega, by omega, HST0.out _ HST.out, HRB.out.step HST.out hx256⟩
                case measure => simp [intOf]; omega
        · have hdg' : (decide ((48 : Int) ≤ (x : Int)) && decide ((x : Int) ≤ 57)) = false := by
            rw [Bool.and_eq_false_iff, decide_eq_false_iff_not, decide_eq_false_iff_not]; omega
          have HDG := Lib.hid hdg
          clear hdg
          obtain ⟨y, hy⟩ : ∃ y, y = low x := ⟨_, rfl⟩
          have HLW := Lib.hid (lower_any x hx256)
          rw [← hy] at HLW
          have hy256 : y < 256 := by rw [hy]; exact low_lt hx256
          have HY := Lib.hid hy
          clear hy
          have hdcase : (x < 48 ∨ 57 < x) := by have := HDG.out; omega
          by_cases hxd : hx = true ∧ 97 ≤ y ∧ y ≤ 102
          · obtain ⟨rfl, h97, h102⟩ := hxd
            have hB16 : B = 16 := HB.out
            have hM16 : M = 16 := HM.out
            have bB : ((B : Int) == 16) = true := by rw [hB16]; rfl
            have HM16 := Lib.hid hM16
            clear hB16 hM16
            have g3 : decide ((97 : Int) ≤ (y : Int)) = true := decide_eq_true (by omega)
            have g4 : decide ((y : Int) ≤ 102) = true := decide_eq_true (by omega)
            by_cases hnm : nm < 16
            · have hnmM : decide (nm < M) = true := decide_eq_true (by rw [HM16.out]; exact hnm)
              have hnmMi : (nm : Int) < (M : Int) := by have := HM16.out; omega
              have HST := Lib.hid (show rfStep true ⟨man, dot, dig, nd, nm, dp, tr, us⟩ x = some ⟨man * 16 + (low x - 87), dot, true, nd + 1, nm + 1, dp, tr, us⟩ by
                unfold rfStep
                simp only
                rw [if_neg h95, if_neg h46, if_neg HDG.out, if_pos ⟨trivial, by rw [← HY.out]; exact h97, by rw [← HY.out]; exact h102⟩, if_pos (show nm < maxd true from hnm)])
              have hfit := (HRB.out.step HST.out hx256).fits
              simp only at hfit
              rw [← HY.out] at hfit
              obtain ⟨p, hp⟩ : ∃ p, p = man * 16 := ⟨_, rfl⟩
              obtain ⟨z, hz⟩ : ∃ z, z = y - 97 := ⟨_, rfl⟩
              obtain ⟨d, hd⟩ : ∃ d, d = z + 10 := ⟨_, rfl⟩
              obtain ⟨q, hq⟩ : ∃ q, q = p + d := ⟨_, rfl⟩
              have hd9 : d ≤ 15 := by omega
              have hq64 : q < 18446744073709551616 := by omega
              have e1 : IntKind.u64.wrap ((man : Int) * 16) = (p : Int) := by rw [IntWalk.u64_in _ (by omega)]; omega
              have e2 : IntKind.u8.wrap ((y : Int) - 97) = (z : Int) := by rw [IntWalk.u8_in _ (by omega)]; omega
              have e3 : IntKind.u8.wrap ((z : Int) + 10) = (d : Int) := by rw [IntWalk.u8_in _ (by omega)]; omega
              have e4 : IntKind.u64.wrap ((p : Int) + (d : Int)) = (q : Int) := by rw [IntWalk.u64_in _ (by omega)]; omega
              have hqv : q = man * 16 + (low x - 87) := by rw [← HY.out]; omega
              rw [← hqv] at HST
              have hy97 : (97 : Int) ≤ (y : Int) := by omega
              clear hp hz hd hq hfit hqv
              rcases hdcase with hd1 | hd1
              · have g1 : decide ((48 : Int) ≤ (x : Int)) = false := decide_eq_false (by omega)
                go_wp2_with (refine (HLW.out _).mono ?_; rintro e w' ⟨rfl, rfl⟩)
                go_round
                case rel => exact ⟨q, dot, true, nd + 1, nm + 1, dp, tr, us, k + 1, rfl, rfl, by go_num, rfl, rfl, rfl, by go_num, by go_num, rfl, by omega, by omega, HST0.out _ HST.out, HRB.out.step HST.out hx256⟩
                case measure => simp [intOf]; omega
              · have g1 : decide ((48 : Int) ≤ (x : Int)) = true := decide_eq_true (by omega)
                have g2 : decide ((x : Int) ≤ 57) = false := decide_eq_false (by omega)
                go_wp2_with (refine (HLW.out _).mono ?_; rintro e w' ⟨rfl, rfl⟩)
                go_round
                case rel => exact ⟨q, dot, true, nd + 1, nm + 1, dp, tr, us, k + 1, rfl, rfl, by go_num, rfl, rfl, rfl, by go_num, by go_num, rfl, by omega, by omega, HST0.out _ HST.out, HRB.out.step HST.out hx256⟩
                case measure => simp [intOf]; omega
            · have hnmM : decide (nm < M) = false := decide_eq_false (by rw [HM16.out]; exact hnm)
              have hnmMi : ¬ (nm : Int) < (M : Int) := by have := HM16.out; omega
              have HST := Lib.hid (show rfStep true ⟨man, dot, dig, nd, nm, dp, tr, us⟩ x = some ⟨man, dot, true, nd + 1, nm, dp, true, us⟩ by
                unfold rfStep
                simp only
                rw [if_neg h95, if_neg h46, if_neg HDG.out, if_pos ⟨trivial, by rw [← HY.out]; exact h97, by rw [← HY.out]; exact h102⟩, if_neg (show ¬ nm < maxd true from hnm)])
              rcases hdcase with hd1 | hd1
              · have g1 : decide ((48 : Int) ≤ (x : Int)) = false := decide_eq_false (by omega)
                go_wp2_with (refine (HLW.out _).mono ?_; rintro e w' ⟨rfl, rfl⟩)
                go_round
                case rel => exact ⟨man, dot, true, nd + 1, nm, dp, true, us, k + 1, rfl, rfl, by go_num, rfl, rfl, rfl, by go_num, rfl, rfl, by omega, by omega, HST0.out _ HST.out, HRB.out.step HST.out hx256⟩
                case measure => simp [intOf]; omega
              · have g1 : decide ((48 : Int) ≤ (x : Int)) = true := decide_eq_true (by omega)
                have g2 : decide ((x : Int) ≤ 57) = false := decide_eq_false (by omega)
                go_wp2_with (refine (HLW.out _).mono ?_; rintro e w' ⟨rfl, rfl⟩)
                go_round
                case rel => exact ⟨man, dot, true, nd + 1, nm, dp, true, us, k + 1, rfl, rfl, by go_num, rfl, rfl, rfl, by go_num, rfl, rfl, by omega, by omega, HST0.out _ HST.out, HRB.out.step HST.out hx256⟩
                case measure => simp [intOf]; omega
          · have HST := Lib.hid (show rfStep hx ⟨man, dot, dig, nd, nm, dp, tr, us⟩ x = none by
              unfold rfStep
              rw [if_neg h95, if_neg h46, if_neg HDG.out, if_neg (by rw [← HY.out]; exact hxd)])
            have HZ3 := Lib.hid (HZ2.out.trans (run_stop HST.out))
            rw [← hxe, ← ns_drop s k hlt] at HZ3
            have HXD := Lib.hid hxd
            clear hxd
            cases hx with
            | false =>
              have hB10 : B = 10 := HB.out
              have bB : ((B : Int) == 16) = false := by rw [hB10]; rfl
              clear hB10
              rcases hdcase with hd1 | hd1
              · have g1 : decide ((48 : Int) ≤ (x : Int)) = false := decide_eq_false (by omega)
                go_wp2_with (refine (HLW.out _).mono ?_; rintro e w' ⟨rfl, rfl⟩)
                go_meet
                exact ⟨man, dot, dig, nd, nm, dp, tr, us, k, rfl, rfl, rfl, rfl, rfl, rfl, rfl, rfl, rfl, hkk, hks', HZ3.out, HRB.out, rfl⟩
              · have g1 : decide ((48 : Int) ≤ (x : Int)) = true := decide_eq_true (by omega)
                have g2 : decide ((x : Int) ≤ 57) = false := decide_eq_false (by omega)
                go_wp2_with (refine (HLW.out _).mono ?_; rintro e w' ⟨rfl, rfl⟩)
                go_meet
                exact ⟨man, dot, dig, nd, nm, dp, tr, us, k, rfl, rfl, rfl, rfl, rfl, rfl, rfl, rfl, rfl, hkk, hks', HZ3.out, HRB.out, rfl⟩
            | true =>
              have hB16 : B = 16 := HB.out
              have bB : ((B : Int) == 16) = true := by rw [hB16]; rfl
              clear hB16
              have hyc : y < 97 ∨ (97 ≤ y ∧ 102 < y) := by
                have := HXD.out
                simp at this
                omega
              rcases hyc with h97 | ⟨h97, h102⟩
              · have g3 : decide ((97 : Int) ≤ (y : Int)) = false := decide_eq_false (by omega)
                rcases hdcase with hd1 | hd1
                · have g1 : decide ((48 : Int) ≤ (x : Int)) = false := decide_eq_false (by omega)
                  go_wp2_with (refine (HLW.out _).mono ?_; rintro e w' ⟨rfl, rfl⟩)
                  go_meet
                  exact ⟨man, dot, dig, nd, nm, dp, tr, us, k, rfl, rfl, rfl, rfl, rfl, rfl, rfl, rfl, rfl, hkk, hks', HZ3.out, HRB.out, rfl⟩
                · have g1 : decide ((48 : Int) ≤ (x : Int)) = true := decide_eq_true (by omega)
                  have g2 : decide ((x : Int) ≤ 57) = false := decide_eq_false (by omega)
                  go_wp2_with (refine (HLW.out _).mono ?_; rintro e w' ⟨rfl, rfl⟩)
                  go_meet
                  exact ⟨man, dot, dig, nd, nm, dp, tr, us, k, rfl, rfl, rfl, rfl, rfl, rfl, rfl, rfl, rfl, hkk, hks', HZ3.out, HRB.out, rfl⟩
              · have g3 : decide ((97 : Int) ≤ (y : Int)) = true := decide_eq_true (by omega)
                have g4 : decide ((y : Int) ≤ 102) = false := decide_eq_false (by omega)
                rcases hdcase with hd1 | hd1
                · have g1 : decide ((48 : Int) ≤ (x : Int)) = false := decide_eq_false (by omega)
                  go_wp2_with (refine (HLW.out _).mono ?_; rintro e w' ⟨rfl, rfl⟩)
                  go_meet
                  exact ⟨man, dot, dig, nd, nm, dp, tr, us, k, rfl, rfl, rfl, rfl, rfl, rfl, rfl, rfl, rfl, hkk, hks', HZ3.out, HRB.out, rfl⟩
                · have g1 : decide ((48 : Int) ≤ (x : Int)) = true := decide_eq_true (by omega)
                  have g2 : decide ((x : Int) ≤ 57) = false := decide_eq_false (by omega)
                  go_wp2_with (refine (HLW.out _).mono ?_; rintro e w' ⟨rfl, rfl⟩)
                  go_meet
                  exact ⟨man, dot, dig, nd, nm, dp, tr, us, k, rfl, rfl, rfl, rfl, rfl, rfl, rfl, rfl, rfl, hkk, hks', HZ3.out, HRB.out, rfl⟩
      · obtain rfl : k = s.size := by omega
        have h1 := ns_end s s.size (Nat.le_refl _)
        have HZ2 := Lib.hid (show Z = (⟨man, dot, dig, nd, nm, dp, tr, us⟩, (ns s).drop s.size) by rw [hz, h1]; rfl)
        clear hz h1
        go_wp2_with fail
        go_meet
        exact ⟨man, dot, dig, nd, nm, dp, tr, us, s.size, rfl, rfl, rfl, rfl, rfl, rfl, rfl, rfl, rfl, hkk, hks', HZ2.out, HRB.out, rfl⟩
  case rest =>
  obtain ⟨man, dot, dig, nd, nm, dp, tr, us, k, rfl, rfl, rfl, rfl, rfl, rfl, rfl, rfl, rfl, hkk, hks', hz, hrb, rfl⟩ := hcut
  have hfit := hrb.fits
  have hndk : nd ≤ k := hrb.nd
  have hnmk : nm ≤ nd := hrb.nmnd
  have hdp1 : -(k : Int) ≤ dp := hrb.lo
  have hdp2 : dp ≤ k := hrb.hi
  simp only at hfit
  have hfit2 : hx = false → man < 10000000000000000000 := by
    intro hxf
    have h1 := hrb.man
    have h2 := hrb.nm
    rw [hxf] at h1 h2
    have h3 : base false ^ nm ≤ 10 ^ 19 := Nat.pow_le_pow_right (by decide) h2
    simp only at h1
    omega
  have HF2 := Lib.hid hfit2
  clear hfit2
  have hrd : readF (ns s) = rdTail (ns s) ng hx ⟨man, dot, dig, nd, nm, dp, tr, us⟩ ((ns s).drop k) := by
    unfold readF
    rw [if_neg (by rw [← HL.out, HCO.out]; exact List.cons_ne_nil _ _), ← HL.out, HS2.out]
    simp only
    rw [HHX2.out, HL.out]
    simp only
    rw [← HZ.out, hz]
  have HRD := Lib.hid hrd
  have hln : k ≤ (ns s).length := by rw [ns_len]; exact hks'
  have hlsz : (ns s).length = s.size := ns_len s
  have HLS := Lib.hid hlsz
  clear hz hrb hrd HZ HHX HHX2 HS2 HSG HCO HL1 HK2 hlsz
  cases dig with
  | false =>
    have HN := Lib.hid (show readF (ns s) = none by rw [HRD.out]; rfl)
    go_wp2_with fail
    refine follow_ret HR.out ?_
    refine bodyPost_ret (results_tmp7 rfl _ _ _) rfl ?_
    exact rd_none HN.out hfit HF2.out hln
  | true =>
    obtain ⟨dq, hdq⟩ : ∃ dq : Int, dq = if dot then dp else (nd : Int) := ⟨_, rfl⟩
    have HDQ := Lib.hid hdq
    have hdq1 : -(k : Int) ≤ dq := by rw [hdq]; split <;> omega
    have hdq2 : dq ≤ k := by rw [hdq]; split <;> omega
    clear hdq
    go_upto_if 142 with fail
    go_cut [17] from 143 to 143 (fun p wx => p = .int .i64 dq ∧ wx = wc)
    case first =>
      cases dot with
      | true =>
        have h1 : dq = dp := HDQ.out
        subst h1
        go_wp2_with fail
        go_meet
        exact ⟨rfl, rfl⟩
      | false =>
        have h1 : dq = (nd : Int) := HDQ.out
        subst h1
        go_wp2_with fail
        go_meet
        exact ⟨rfl, rfl⟩
    case rest =>
    obtain ⟨rfl, rfl⟩ := hcut
    obtain ⟨P, hP⟩ : ∃ P : Int, P = (if hx then 4 else 1) * dq := ⟨_, rfl⟩
    obtain ⟨N, hN⟩ : ∃ N : Nat, N = (if hx then 4 else 1) * nm := ⟨_, rfl⟩
    have hP1 : -4000000000 ≤ P ∧ P ≤ 4000000000 := by rw [hP]; split <;> omega
    have hN1 : N ≤ 4000000000 := by rw [hN]; split <;> omega
    have hP11 := hP1.1
    have hP12 := hP1.2
    have HPP := Lib.hid hP
    have HNN := Lib.hid hN
    have hrd2 := HRD.out
    unfold rdTail at hrd2
    simp only at hrd2
    rw [if_neg (by decide), ← HDQ.out, ← hP] at hrd2
    have HRD2 := Lib.hid hrd2
    have hbx : ((B : Int) == 16) = hx := by
      rw [HB.out]; cases hx <;> rfl
    clear hP hN hP1 hrd2 HRD
    go_upto_if 145 with fail
    go_cut [16, 17] from 146 to 149 (fun m p wx => m = .int .i64 N ∧ p = .int .i64 P ∧ wx = wc)
    case first =>
      cases hx with
      | true =>
        have e1 : dq * 4 = P := by have := HPP.out; simp at this; omega
        have e2 : (nm : Int) * 4 = (N : Int) := by have := HNN.out; simp at this; omega
        go_wp2_with fail
        go_meet
        exact ⟨rfl, rfl, rfl⟩
      | false =>
        have e1 : P = dq := by have := HPP.out; simp at this; omega
        have e2 : N = nm := by have := HNN.out; simp at this; omega
        subst e1 e2
        go_wp2_with fail
        go_meet
        exact ⟨rfl, rfl, rfl⟩
    case rest =>
    obtain ⟨rfl, rfl, rfl⟩ := hcut
    go_upto_region 57 with fail
    go_cut [161] from 150 to 161 (fun x wx => ∃ t : Bool, x = .bool t ∧ wx = wc ∧ IsE s k X t)
    case first =>
      by_cases hlt : k < s.size
      · have hd : decide (k < s.size) = true := decide_eq_true hlt
        have hdr := ns_drop s k hlt
        obtain ⟨x, hxe⟩ : ∃ x : Nat, (s[k]'hlt).toNat = x := ⟨_, rfl⟩
        have hx256 := ns_lt s k hlt
        rw [hxe] at hx256 hdr
        obtain ⟨y, hy⟩ : ∃ y, y = low x := ⟨_, rfl⟩
        have HLW := Lib.hid (lower_any x hx256)
        rw [← hy] at HLW
        have HY := Lib.hid hy
        have HDR := Lib.hid hdr
        clear hy hdr
        by_cases hyX : y = X
        · have b : ((y : Int) == (X : Int)) = true := by rw [hyX]; simp
          have HYX := Lib.hid hyX
          clear hyX
          go_wp2_with (refine (HLW.out _).mono ?_; rintro e w' ⟨rfl, rfl⟩)
          go_meet
          exact ⟨true, rfl, rfl, fun _ => ⟨hlt, by rw [hxe, ← HY.out]; exact HYX.out⟩, (fun h => by cases h)⟩
        · have b : ((y : Int) == (X : Int)) = false := beq_eq_false_iff_ne.2 (by omega)
          have HYX := Lib.hid hyX
          clear hyX
          go_wp2_with (refine (HLW.out _).mono ?_; rintro e w' ⟨rfl, rfl⟩)
          go_meet
          exact ⟨false, rfl, rfl, (fun h => by cases h), fun _ => .inr ⟨x, _, HDR.out, by rw [← HY.out]; exact HYX.out⟩⟩
      · have hd : decide (k < s.size) = false := decide_eq_false hlt
        have HDR := Lib.hid (ns_end s k (by omega))
        go_wp2_with fail
        go_meet
        exact ⟨false, rfl, rfl, (fun h => by cases h), fun _ => .inl HDR.out⟩
    case rest =>
    obtain ⟨t, rfl, rfl, ht1, ht2⟩ := hcut
    have HT1 := Lib.hid ht1
    have HT2 := Lib.hid ht2
    clear ht1 ht2
    go_upto_if 161 with fail
    go_cut [7, 9, 17, 19, 20] from 162 to 239 (fun i u p _ _ wx => ∃ (us' : Bool) (P' : Int) (k' : Nat), i = .int .i64 k' ∧ u = .bool us' ∧ p = .int .i64 P' ∧ k ≤ k' ∧ k' ≤ s.size ∧ -5000000000 ≤ P' ∧ P' ≤ 5000000000 ∧ expOf hx us P ((ns s).drop k) = some (P', us', (ns s).drop k') ∧ wx = wc)
    case first =>
      cases t with
      | false =>
        have hex : expOf hx us P ((ns s).drop k) = if hx then none else some (P, us, (ns s).drop k) := by
          rcases HT2.out rfl with h1 | ⟨c, r, h1, h2⟩
          · rw [h1]; rfl
          · rw [h1, expOf_no (by rw [← HX.out]; exact h2)]
        cases hx with
        | true =>
          have HN := Lib.hid (show readF (ns s) = none by rw [HRD2.out, hex]; rfl)
          clear hex
          go_wp2_with fail
          refine follow_ret HR.out ?_
          refine bodyPost_ret (results_tmp7 rfl _ _ _) rfl ?_
          exact rd_none HN.out hfit HF2.out hln
        | false =>
          have HE := Lib.hid hex
          clear hex
          go_wp2_with fail
          go_meet
          exact ⟨us, P, k, rfl, rfl, rfl, Nat.le_refl _, hks', by omega, by omega, HE.out, rfl⟩
      | true =>
        obtain ⟨hlt, hlow⟩ := HT1.out rfl
        have hdr := ns_drop s k hlt
        have hex : expOf hx us P ((ns s).drop k) = expTail us P (signOf ((ns s).drop (k + 1))).1 (signOf ((ns s).drop (k + 1))).2 := by
          rw [hdr, expOf_yes (by rw [← HX.out]; exact hlow)]
        have HEX := Lib.hid hex
        clear hdr hex hlow
        obtain ⟨q, hq⟩ : ∃ q, q = k + 1 := ⟨_, rfl⟩
        have hqi : (k : Int) + 1 = (q : Int) := by omega
        have hqs : q ≤ s.size := by omega
        have hqk : k < q := by omega
        rw [← hq] at HEX
        clear hq
        by_cases hlt2 : q < s.size
        · have hd : decide (s.size ≤ q) = false := decide_eq_false (by omega)
          have hdr := ns_drop s q hlt2
          obtain ⟨d, hdx⟩ : ∃ d : Nat, (s[q]'hlt2).toNat = d := ⟨_, rfl⟩
          rw [hdx] at hdr
          have hsg := sign_cases _ d _ hdr
          have HSG := Lib.hid hsg
          have HDR := Lib.hid hdr
          clear hsg hdr
          go_upto_block 4 with fail
          go_cut [7, 19] from 171 to 178 (fun i e wx => ∃ (sg : Bool) (q2 : Nat), i = .int .i64 q2 ∧ e = .int .i64 (if sg then -1 else 1) ∧ q ≤ q2 ∧ q2 ≤ s.size ∧ signOf ((ns s).drop q) = (sg, (ns s).drop q2) ∧ wx = wc)
          case first =>
            rcases HSG.out with ⟨h1, h2⟩ | ⟨h1, h2⟩ | ⟨h1, h2, h3⟩
            · subst h1
              have H2 := Lib.hid h2
              clear h2
              go_wp2_with fail
              go_meet
              exact ⟨false, q + 1, by go_num, rfl, by omega, by omega, H2.out, rfl⟩
            · subst h1
              have H2 := Lib.hid h2
              clear h2
              go_wp2_with fail
              go_meet
              exact ⟨true, q + 1, by go_num, rfl, by omega, by omega, H2.out, rfl⟩
            · have b1 : ((d : Int) == 43) = false := beq_eq_false_iff_ne.2 (by omega)
              have b2 : ((d : Int) == 45) = false := beq_eq_false_iff_ne.2 (by omega)
              have H2 := Lib.hid h3
              clear h1 h2 h3
              go_wp2_with fail
              go_meet
              exact ⟨false, q, rfl, rfl, Nat.le_refl _, hqs, by rw [H2.out, HDR.out], rfl⟩
          case rest =>
          obtain ⟨sg, q2, rfl, he1, hqq2, hq2s, hsg, rfl⟩ := hcut
          obtain ⟨es, hes⟩ : ∃ es : Int, es = if sg then -1 else 1 := ⟨_, rfl⟩
          rw [← hes] at he1
          subst he1
          have HES := Lib.hid hes
          have hes2 : -1 ≤ es ∧ es ≤ 1 := by rw [hes]; split <;> omega
          have hes3 := hes2.1
          have hes4 := hes2.2
          have HSG2 := Lib.hid hsg
          clear hsg hes hes2 HSG HDR hdx
          have hex2 := HEX.out
          rw [HSG2.out] at hex2
          simp only at hex2
          have HEX2 := Lib.hid hex2
          clear hex2
          by_cases hlt3 : q2 < s.size
          · have hdr2 := ns_drop s q2 hlt3
            have hd256 := ns_lt s q2 hlt3
            obtain ⟨d2, hdx2⟩ : ∃ d : Nat, (s[q2]'hlt3).toNat = d := ⟨_, rfl⟩
            rw [hdx2] at hdr2 hd256
            have HDR2 := Lib.hid hdr2
            clear hdr2
            have hd2 : decide (s.size ≤ q2) = false := decide_eq_false (by omega)
            by_cases h48 : 48 ≤ d2
            · have g1 : decide ((d2 : Int) < 48) = false := decide_eq_false (by omega)
              by_cases h57 : d2 ≤ 57
              · have g2 : decide ((57 : Int) < (d2 : Int)) = false := decide_eq_false (by omega)
                obtain ⟨W, hW⟩ : ∃ W, W = expRun 0 us ((ns s).drop q2) := ⟨_, rfl⟩
                have HW := Lib.hid hW
                clear hW
                go_wp2_with fail
                go_loop [7, 9, 20] (fun i u e => ∃ (q3 : Nat) (us1 : Bool) (ev : Nat), i = .int .i64 q3 ∧ u = .bool us1 ∧ e = .int .i64 ev ∧ q2 ≤ q3 ∧ q3 ≤ s.size ∧ ev ≤ 99999 ∧ W = expRun ev us1 ((ns s).drop q3)) (fun i u e => s.size - (intOf i).toNat)
                case atStart => exact ⟨q2, us, 0, rfl, rfl, rfl, Nat.le_refl _, hq2s, by omega, HW.out⟩
                case round =>
                  obtain ⟨q3, us1, ev, rfl, rfl, rfl, hq23, hq3s, hev, hw⟩ := hrel
                  by_cases hlt4 : q3 < s.size
                  · have hdr3 := ns_drop s q3 hlt4
                    have hx256 := ns_lt s q3 hlt4
                    obtain ⟨x, hxe⟩ : ∃ x : Nat, (s[q3]'hlt4).toNat = x := ⟨_, rfl⟩
                    rw [hxe] at hdr3 hx256
                    have hw2 : W = expRun ev us1 (x :: (ns s).drop (q3 + 1)) := by rw [hw, hdr3]
                    have HW1 := Lib.hid hw
                    have HW2 := Lib.hid hw2
                    have HDR3 := Lib.hid hdr3
                    have hd4 : decide (q3 < s.size) = true := decide_eq_true hlt4
                    clear hw hw2 hdr3
                    by_cases hx95 : x = 95
                    · subst hx95
                      have HN := Lib.hid (show W = expRun ev true ((ns s).drop (q3 + 1)) by rw [HW2.out, expRun, if_pos rfl])
                      go_wp2_with fail
                      go_round
                      case rel => exact ⟨q3 + 1, true, ev, by go_num, rfl, rfl, by omega, by omega, hev, HN.out⟩
                      case measure => simp [intOf]; omega
                    · have b95 : ((x : Int) == 95) = false := beq_eq_false_iff_ne.2 (by omega)
                      by_cases hxd : 48 ≤ x ∧ x ≤ 57
                      · have f1 : decide ((48 : Int) ≤ (x : Int)) = true := decide_eq_true (by omega)
                        have f2 : decide ((x : Int) ≤ 57) = true := decide_eq_true (by omega)
                        by_cases h10 : ev < 10000
                        · have f3 : decide ((ev : Int) < 10000) = true := decide_eq_true (by omega)
                          obtain ⟨ev2, hev2⟩ : ∃ e, e = ev * 10 + (x - 48) := ⟨_, rfl⟩
                          have HN := Lib.hid (show W = expRun ev2 us1 ((ns s).drop (q3 + 1)) by rw [HW2.out, expRun, if_neg hx95, if_pos hxd, if_pos h10, hev2])
                          have e1 : (ev : Int) * 10 + (x : Int) - 48 = (ev2 : Int) := by omega
                          have hev3 : ev2 ≤ 99999 := by omega
                          clear hev2 hxd
                          go_wp2_with fail
                          go_round
                          case rel => exact ⟨q3 + 1, us1, ev2, by go_num, rfl, rfl, by omega, by omega, hev3, HN.out⟩
                          case measure => simp [intOf]; omega
                        · have f3 : decide ((ev : Int) < 10000) = false := decide_eq_false (by omega)
                          have HN := Lib.hid (show W = expRun ev us1 ((ns s).drop (q3 + 1)) by rw [HW2.out, expRun, if_neg hx95, if_pos hxd, if_neg h10])
                          clear hxd
                          go_wp2_with fail
                          go_round
                          case rel => exact ⟨q3 + 1, us1, ev, by go_num, rfl, rfl, by omega, by omega, hev, HN.out⟩
                          case measure => simp [intOf]; omega
                      · have HW3 := Lib.hid (show W = (ev, us1, (ns s).drop q3) by rw [HW2.out, expRun, if_neg hx95, if_neg hxd, ← HDR3.out])
                        have hc : x < 48 ∨ 57 < x := by omega
                        clear hxd
                        rcases hc with hc | hc
                        · have f1 : decide ((48 : Int) ≤ (x : Int)) = false := decide_eq_false (by omega)
                          obtain ⟨mm, hmm⟩ : ∃ mm : Int, mm = (ev : Int) * es := ⟨_, rfl⟩
                          have hmw : (ev : Int) * es = mm := hmm.symm
                          have hmv : mm = if sg then -(ev : Int) else (ev : Int) := by
                            rw [hmm, HES.out]; cases sg <;> simp
                          have hmb : -99999 ≤ mm ∧ mm ≤ 99999 := by rw [hmv]; split <;> omega
                          have hmb1 := hmb.1
                          have hmb2 := hmb.2
                          have HFIN := Lib.hid (show expOf hx us P ((ns s).drop k) = some (P + mm, us1, (ns s).drop q3) by
                            rw [HEX2.out, HDR2.out, expTail, if_pos ⟨h48, h57⟩, ← HDR2.out, ← HW.out, HW3.out, hmv])
                          clear hmm hmv hmb
                          go_wp2_with fail
                          go_meet
                          exact ⟨us1, P + mm, q3, rfl, rfl, rfl, by omega, hq3s, by omega, by omega, HFIN.out, rfl⟩
                        · have f1 : decide ((48 : Int) ≤ (x : Int)) = true := decide_eq_true (by omega)
                          have f2 : decide ((x : Int) ≤ 57) = false := decide_eq_false (by omega)
                          obtain ⟨mm, hmm⟩ : ∃ mm : Int, mm = (ev : Int) * es := ⟨_, rfl⟩
                          have hmw : (ev : Int) * es = mm := hmm.symm
                          have hmv : mm = if sg then -(ev : Int) else (ev : Int) := by
                            rw [hmm, HES.out]; cases sg <;> simp
                          have hmb : -99999 ≤ mm ∧ mm ≤ 99999 := by rw [hmv]; split <;> omega
                          have hmb1 := hmb.1
                          have hmb2 := hmb.2
                          have HFIN := Lib.hid (show expOf hx us P ((ns s).drop k) = some (P + mm, us1, (ns s).drop q3) by
                            rw [HEX2.out, HDR2.out, expTail, if_pos ⟨h48, h57⟩, ← HDR2.out, ← HW.out, HW3.out, hmv])
                          clear hmm hmv hmb
                          go_wp2_with fail
                          go_meet
                          exact ⟨us1, P + mm, q3, rfl, rfl, rfl, by omega, hq3s, by omega, by omega, HFIN.out, rfl⟩
                  · obtain rfl : q3 = s.size := by omega
                    have h1 := ns_end s s.size (Nat.le_refl _)
                    have HW3 := Lib.hid (show W = (ev, us1, (ns s).drop s.size) by rw [hw, h1]; rfl)
                    obtain ⟨q3, hq3⟩ : ∃ q, q = s.size := ⟨_, rfl⟩
                    clear hw h1
                    rw [← hq3] at HW3
                    have HQ3 := Lib.hid hq3
                    have hq3s : q3 ≤ s.size := by omega
                    have hqq : q2 ≤ q3 := by omega
                    clear hq3
                    obtain ⟨mm, hmm⟩ : ∃ mm : Int, mm = (ev : Int) * es := ⟨_, rfl⟩
                    have hmw : (ev : Int) * es = mm := hmm.symm
                    have hmv : mm = if sg then -(ev : Int) else (ev : Int) := by
                      rw [hmm, HES.out]; cases sg <;> simp
                    have hmb : -99999 ≤ mm ∧ mm ≤ 99999 := by rw [hmv]; split <;> omega
                    have hmb1 := hmb.1
                    have hmb2 := hmb.2
                    have HFIN := Lib.hid (show expOf hx us P ((ns s).drop k) = some (P + mm, us1, (ns s).drop q3) by
                      rw [HEX2.out, HDR2.out, expTail, if_pos ⟨h48, h57⟩, ← HDR2.out, ← HW.out, HW3.out, hmv])
                    clear hmm hmv hmb
                    go_wp2_with fail
                    go_meet
                    exact ⟨us1, P + mm, q3, by rw [HQ3.out], rfl, rfl, by omega, hq3s, by omega, by omega, HFIN.out, rfl⟩
              · have g2 : decide ((57 : Int) < (d2 : Int)) = true := decide_eq_true (by omega)
                have HN := Lib.hid (show readF (ns s) = none by rw [HRD2.out, HEX2.out, HDR2.out, expTail, if_neg (by omega)])
                go_wp2_with fail
                refine follow_ret HR.out ?_
                refine bodyPost_ret (results_tmp7 rfl _ _ _) rfl ?_
                exact rd_none HN.out hfit HF2.out (by rw [HLS.out]; exact hq2s)
            · have g1 : decide ((d2 : Int) < 48) = true := decide_eq_true (by omega)
              have HN := Lib.hid (show readF (ns s) = none by rw [HRD2.out, HEX2.out, HDR2.out, expTail, if_neg (by omega)])
              go_wp2_with fail
              refine follow_ret HR.out ?_
              refine bodyPost_ret (results_tmp7 rfl _ _ _) rfl ?_
              exact rd_none HN.out hfit HF2.out (by rw [HLS.out]; exact hq2s)
          · have hd2 : decide (s.size ≤ q2) = true := decide_eq_true (by omega)
            have hnil := ns_end s q2 (by omega)
            have HN := Lib.hid (show readF (ns s) = none by rw [HRD2.out, HEX2.out, hnil, expTail])
            clear hnil
            go_wp2_with fail
            refine follow_ret HR.out ?_
            refine bodyPost_ret (results_tmp7 rfl _ _ _) rfl ?_
            exact rd_none HN.out hfit HF2.out (by rw [HLS.out]; exact hq2s)
        · have hd : decide (s.size ≤ q) = true := decide_eq_true (by omega)
          have hnil := ns_end s q (by omega)
          have HN := Lib.hid (show readF (ns s) = none by rw [HRD2.out, HEX.out, hnil]; rfl)
          clear hnil
          go_wp2_with fail
          refine follow_ret HR.out ?_
          refine bodyPost_ret (results_tmp7 rfl _ _ _) rfl ?_
          exact rd_none HN.out hfit HF2.out (by rw [HLS.out]; exact hqs)
    case rest =>
    obtain ⟨us', P', k', rfl, rfl, rfl, hkk', hks2, hP1, hP2, hex, rfl⟩ := hcut
    have hlen : (ns s).length - ((ns s).drop k').length = k' := by rw [List.length_drop]; have := ns_len s; omega
    have hfin : readF (ns s) = if us' = true ∧ uOk ((ns s).take k') = false then none else some ⟨man, if man = 0 then 0 else P' - N, ng, tr, hx, k'⟩ := by
      rw [HRD2.out, hex]
      simp only [hlen]
      have : ((if hx = true then (4 : Int) else 1) * (nm : Int)) = (N : Int) := by rw [HNN.out]; cases hx <;> simp
      rw [this]
    have hk'l : k' ≤ (ns s).length := by rw [ns_len]; exact hks2
    have HFI := Lib.hid hfin
    clear hex hlen hfin
    obtain ⟨ex, hexv⟩ : ∃ ex : Int, ex = if man = 0 then 0 else P' - (N : Int) := ⟨_, rfl⟩
    rw [← hexv] at HFI
    have HXV := Lib.hid hexv
    clear hexv
    go_upto_if 241 with fail
    go_cut [3] from 242 to 244 (fun x wx => x = .int .i64 ex ∧ wx = wc)
    case first =>
      by_cases hm0 : man = 0
      · have b : ((man : Int) != 0) = false := by rw [hm0]; rfl
        have he : ex = 0 := by rw [HXV.out, if_pos hm0]
        subst he
        clear hm0
        go_wp2_with fail
        go_meet
        exact ⟨rfl, rfl⟩
      · have b : ((man : Int) != 0) = true := bne_iff_ne.2 (by omega)
        have he : P' - (N : Int) = ex := by rw [HXV.out, if_neg hm0]
        clear hm0
        go_wp2_with fail
        go_meet
        exact ⟨rfl, rfl⟩
    case rest =>
    obtain ⟨rfl, rfl⟩ := hcut
    cases us' with
    | false =>
      have HS := Lib.hid (show readF (ns s) = some ⟨man, ex, ng, tr, hx, k'⟩ by rw [HFI.out, if_neg (by simp)])
      go_wp2_with fail
      refine follow_ret HR.out ?_
      refine bodyPost_ret (results_tmp7 rfl _ _ _) rfl ?_
      exact rd_some HS.out hfit HF2.out hk'l
    | true =>
      have hcall := fun w => hU (s.extract 0 k') w (by rw [ByteArray.size_extract]; omega)
      rw [ns_ext, List.drop_zero] at hcall
      obtain ⟨ok, hok⟩ : ∃ ok, ok = uOk ((ns s).take k') := ⟨_, rfl⟩
      rw [← hok] at hcall HFI
      have HC := Lib.hid hcall
      clear hcall hok
      cases ok with
      | true =>
        have HS := Lib.hid (show readF (ns s) = some ⟨man, ex, ng, tr, hx, k'⟩ by rw [HFI.out, if_neg (by simp)])
        go_wp2_with (refine (HC.out _).mono ?_; rintro e w' ⟨rfl, rfl⟩)
        refine follow_ret HR.out ?_
        refine bodyPost_ret (results_tmp7 rfl _ _ _) rfl ?_
        exact rd_some HS.out hfit HF2.out hk'l
      | false =>
        have HS := Lib.hid (show readF (ns s) = none by rw [HFI.out, if_pos (by simp)])
        go_wp2_with (refine (HC.out _).mono ?_; rintro e w' ⟨rfl, rfl⟩)
        refine follow_ret HR.out ?_
        refine bodyPost_ret (results_tmp7 rfl _ _ _) rfl ?_
        exact rd_none HS.out hfit HF2.out hk'l
end Go.Proofs.YtiebedcldbmlhaaGreatDoor.Fl
