/-
  Joined: atof32, of any text; parseFloatPrefix and ParseFloat of the library's inner package at bitSize 32; strconv.ParseFloat at bitSize 32.
  Conditions: each law's own.
-/
import Derived.Test.YtiebedcldbmlhaaGreatDoorK12
namespace Go.Proofs.YtiebedcldbmlhaaGreatDoor.Fl
open Go.RowKit
set_option linter.unusedVariables false

set_option maxHeartbeats 1000000 in
set_option maxRecDepth 100000 in
theorem readf_zero (s : ByteArray) (w : World) (h0 : s.size = 0) : Calls Tryz.prog 112 #[.string s] w (RdPost (ns s) w) := by
  have hemp : s = ByteArray.empty := by
    cases s with | mk d => exact congrArg ByteArray.mk (Array.eq_empty_of_size_eq_zero h0)
  subst hemp
  have HN := Lib.hid (show readF (ns ByteArray.empty) = none from rfl)
  go_enter Tryz.func112, Tryz.ntmps112
  go_wp2_with fail
  refine wp_scope_named 0 ?_
  intro R hR
  have HR := Lib.hid hR
  clear hR
  go_wp2_with fail
  refine follow_ret HR.out ?_
  refine bodyPost_ret (results_tmp7 rfl _ _ _) rfl ?_
  exact rd_none (man := 0) (n := 0) HN.out (by decide) (fun _ => by decide) (Nat.zero_le _)
theorem readf_all (s : ByteArray) (w : World) (hs : s.size ≤ 1000000000) : Calls Tryz.prog 112 #[.string s] w (RdPost (ns s) w) := by
  rcases Nat.eq_zero_or_pos s.size with h | h
  · exact readf_zero s w h
  · exact readf_any s w hs h (fun t w ht => under_any t w ht)
theorem set_all (c : Nat) (s : ByteArray) (T : TypeId) (cs0 : Array Value) (w : World) (hs : s.size ≤ 1000000000) (ho : w.heap[c]? = some (.cells cs0 T (0, 0))) (hr : Raw cs0) (hn : cs0[800]? = some (.int .i64 0)) (hp : cs0[801]? = some (.int .i64 0)) :
    Calls Tryz.prog 118 #[.pointer (some ⟨c, 0, none⟩), .string s] w (SetPost (ns s) c T w) := by
  rcases Nat.eq_zero_or_pos s.size with h | h
  · exact set_zero c s T cs0 w h ho hr
  · exact set_any c s T cs0 w hs h ho hr hn hp
theorem conv64 (fb : Nat) (w : World) : ∃ r q, (convert 92 150 (.float .f64 fb)).run Tryz.prog w = .ok (.float .f32 r) (w.drewN q) :=
  fconv_run _ _ _ _ fb _ Tryz.underlying92 Tryz.underlying150 w
theorem b2u32_sgn (neg : Bool) (w : World) : Calls Tryz.prog 114 #[.bool neg] w fun en w' => en = .returned (.int .u32 (natOf neg : Nat)) ∧ w = w' := b2u32_any neg w
theorem DecT.zero {T : Nat → Nat × Nat} {l : List Nat} {r : Rd} (h : r.man = 0) : DecT T l r .nilIface := by unfold DecT; rw [if_pos h]
theorem DecT.big {T : Nat → Nat × Nat} {l : List Nat} {r : Rd} (h : r.man ≠ 0) (h1 : 40 < r.exp) : DecT T l r (errV true) := by unfold DecT; rw [if_neg h, if_pos h1]
theorem DecT.small {T : Nat → Nat × Nat} {l : List Nat} {r : Rd} (h : r.man ≠ 0) (h1 : ¬ 40 < r.exp) (h2 : r.exp < -70) : DecT T l r .nilIface := by unfold DecT; rw [if_neg h, if_neg h1, if_pos h2]
theorem DecT.fast {T : Nat → Nat × Nat} {l : List Nat} {r : Rd} (h : r.man ≠ 0) (h1 : ¬ 40 < r.exp) (h2 : ¬ r.exp < -70) (h3 : r.tr = false) : DecT T l r (errV (pfR T r.man r.exp (sgnV r.neg))) := by unfold DecT; rw [if_neg h, if_neg h1, if_neg h2, if_pos h3]
theorem DecT.both {T : Nat → Nat × Nat} {l : List Nat} {r : Rd} (h : r.man ≠ 0) (h1 : ¬ 40 < r.exp) (h2 : ¬ r.exp < -70) (h3 : r.tr = true) (h4 : alike (pfB T r.man r.exp (sgnV r.neg)) (pfB T (r.man + 1) r.exp (sgnV r.neg)) = true) : DecT T l r (errV (pfR T r.man r.exp (sgnV r.neg))) := by unfold DecT; rw [if_neg h, if_neg h1, if_neg h2, if_neg (by rw [h3]; decide), if_pos h4]
theorem DecT.slow {T : Nat → Nat × Nat} {l : List Nat} {r : Rd} {er : Value} (h : r.man ≠ 0) (h1 : ¬ 40 < r.exp) (h2 : ¬ r.exp < -70) (h3 : r.tr = true) (h4 : alike (pfB T r.man r.exp (sgnV r.neg)) (pfB T (r.man + 1) r.exp (sgnV r.neg)) = false) (h5 : SlowT (l.take r.n) er) : DecT T l r er := by unfold DecT; rw [if_neg h, if_neg h1, if_neg h2, if_neg (by rw [h3]; decide), if_neg (by rw [h4]; decide)]; exact h5

set_option maxHeartbeats 8000000 in
set_option maxRecDepth 100000 in
theorem atof32_any (T : Nat → Nat × Nat) (B : Nat) (s : ByteArray) (w : World) (hs : s.size ≤ 1000000000) (hE : AEnv T w B) :
    Calls Tryz.prog 104 #[.string s] w (A32Post T (ns s) w) := by
  have HE := Lib.hid hE
  have hzr := zero_run
  have hb32 := bits32_run
  have hopt := hE.opt
  have hlen := ns_len s
  have HLEN := Lib.hid hlen
  clear hE hlen
  go_enter Tryz.func104, Tryz.ntmps104
  go_wp2_with fail
  refine (special_any s w hs).mono ?_
  rintro e w1 ⟨hsp, rfl⟩
  have HSP := Lib.hid hsp
  clear hsp
  rcases hspn : spN (ns s) with _ | k
  · have hsp := HSP.out
    rw [hspn] at hsp
    have he : e = .returned (.tuple #[.float .f64 0, .int .i64 0, .bool false]) := hsp
    subst he
    have HSN := Lib.hid hspn
    clear hsp hspn HSP
    go_wp2_with fail
    refine (readf_all s _ hs).mono ?_
    rintro e w2 ⟨⟨man, exp, neg, tr, hx, n, ok, rfl, hrd, hman, hman2, hn⟩, rfl⟩
    have HMN := Lib.hid hman2
    clear hman2
    rcases hrf : readF (ns s) with _ | r
    · rw [hrf] at hrd
      have hok : ok = false := hrd
      subst hok
      have HRF := Lib.hid hrf
      clear hrd hrf
      go_wp2_with fail
      go_ret3
      exact a32_mk (a32_syn HSN.out HRF.out) (Below.refl _ _)
    · rw [hrf] at hrd
      obtain ⟨rfl, hr⟩ : ok = true ∧ r = ⟨man, exp, neg, tr, hx, n⟩ := hrd
      rw [hr] at hrf
      have HRF := Lib.hid hrf
      have hexb := readF_exp hrf
      rw [HLEN.out] at hexb
      obtain ⟨hex1, hex2⟩ := hexb
      simp only at hex1 hex2
      clear hr hrf
      cases hx with
      | true =>
        have HHX := Lib.hid (fun (t : ByteArray) (w' : World) (hE' : AEnv T w' B) => hex_any t man exp neg tr w' hE'.fe.i0 hE'.fe.i1 hE'.fe.i2 hman (by omega) (by omega))
        have HD := Lib.hid (a32_hex (T := T) HSN.out HRF.out rfl)
        have hns : n ≤ s.size := by rw [← HLEN.out]; exact hn
        go_wp2_with fail
        refine (HHX.out _ _ HE.out).mono ?_
        rintro e3 w3 ⟨fb, rfl, hb3⟩
        obtain ⟨r2, q, hr2⟩ := conv64 fb w3
        have HB3 := Lib.hid hb3
        clear hb3
        go_wp2_with fail
        go_ret3
        exact a32_mk HD.out (HB3.out.trans (below_drewN _ _ _))
      | false =>
        obtain ⟨g, hg⟩ : ∃ g, g = natOf neg := ⟨_, rfl⟩
        have hg1 : g ≤ 1 := by rw [hg]; unfold natOf; split <;> omega
        obtain ⟨S, hS⟩ : ∃ S, S = sgnV neg := ⟨_, rfl⟩
        have hgS : (g : Int) * 2147483648 = S := by rw [hg, hS]; cases neg <;> rfl
        have hgS2 : (g : Int) * 2147483648 % 4294967296 = S := by rw [← hgS]; omega
        have HB2 := Lib.hid (b2u32_sgn neg)
        rw [← hg] at HB2
        have HS := Lib.hid hS
        clear hg hS
        go_wp2_with fail
        refine (HB2.out _).mono ?_
        rintro e3 w3 ⟨rfl, rfl⟩
        by_cases hm0 : man = 0
        · have hm0d : ((man : Int) == 0) = true := by rw [hm0]; rfl
          have HD := Lib.hid (a32_dec HSN.out HRF.out (DecT.zero (T := T) (l := ns s) (r := ⟨man, exp, neg, tr, false, n⟩) hm0) rfl)
          clear hm0
          go_wp2_with fail
          go_ret3
          exact a32_mk HD.out (Below.refl _ _)
        have hm0d : ((man : Int) == 0) = false := beq_eq_false_iff_ne.2 (by omega)
        by_cases h40 : 40 < exp
        · have h40d : decide (40 < exp) = true := decide_eq_true h40
          have HD := Lib.hid (a32_dec HSN.out HRF.out (DecT.big (T := T) (l := ns s) (r := ⟨man, exp, neg, tr, false, n⟩) hm0 h40) rfl)
          go_wp2_with fail
          go_ret3
          exact a32_mk HD.out (Below.refl _ _)
        have h40d : decide (40 < exp) = false := decide_eq_false h40
        by_cases h70 : exp < -70
        · have h70d : decide (exp < -70) = true := decide_eq_true h70
          have HD := Lib.hid (a32_dec HSN.out HRF.out (DecT.small (T := T) (l := ns s) (r := ⟨man, exp, neg, tr, false, n⟩) hm0 h40 h70) rfl)
          go_wp2_with fail
          go_ret3
          exact a32_mk HD.out (Below.refl _ _)
        have h70d : decide (exp < -70) = false := decide_eq_false h70
        have HP := Lib.hid (fun (w' : World) (hE' : AEnv T w' B) => pf32_any T man exp (sgnV neg) w' hE'.pt (Nat.lt_of_lt_of_le hE'.g1 hE'.size) hman (by omega) (by omega) (by omega))
        rw [← HS.out] at HP
        cases tr with
        | false =>
          have HEX := Lib.hid (fun (w' : World) (hE' : AEnv T w' B) => exact_any man exp neg B w' hE'.st hman (by omega) (by omega))
          have HDF := Lib.hid (a32_dec HSN.out HRF.out (DecT.fast (T := T) (l := ns s) (r := ⟨man, exp, neg, false, false, n⟩) hm0 h40 h70 rfl) rfl)
          go_wp2_with fail
          refine (HEX.out _ HE.out).mono ?_
          rintro e4 w4 ⟨fb, ok, rfl, hok, q, rfl⟩
          have HOK := Lib.hid hok
          clear hok
          cases ok with
          | true =>
            obtain ⟨p1, p2, p3⟩ := HOK.out rfl
            have hdd : A32 T (ns s) n (errV (pfR T man exp (sgnV neg))) := HDF.out
            rw [pfR_small hman (by omega) (by omega) p3] at hdd
            have HD := Lib.hid hdd
            clear hdd
            go_wp2_with fail
            go_ret3
            exact a32_mk HD.out (below_drewN _ _ _)
          | false =>
            have HE2 := Lib.hid (HE.out.below (below_drewN _ _ q) HE.out.size)
            go_wp2_with fail
            refine (HP.out _ HE2.out).mono ?_
            rintro e5 w5 ⟨rfl, hb5⟩
            have HB5 := Lib.hid ((below_drewN _ _ q).trans hb5)
            rw [HS.out]
            clear hb5
            go_wp2_with fail
            go_ret3
            exact a32_mk HDF.out HB5.out
        | true =>
          obtain ⟨m1, hm1⟩ : ∃ m1, m1 = man + 1 := ⟨_, rfl⟩
          have hm1i : (man : Int) + 1 = (m1 : Int) := by omega
          have hman3 := HMN.out (by trivial)
          have HP2 := Lib.hid (fun (w' : World) (hE' : AEnv T w' B) => pf32_any T m1 exp (sgnV neg) w' hE'.pt (Nat.lt_of_lt_of_le hE'.g1 hE'.size) (by omega) (by omega) (by omega) (by omega))
          rw [← HS.out] at HP2
          obtain ⟨z, hz⟩ : ∃ z, z = alike (pfB T man exp S) (pfB T m1 exp S) := ⟨_, rfl⟩
          have hal : (FloatKind.f32.format.order (pfB T man exp S) (pfB T m1 exp S) == some .eq) = z := hz.symm
          have HZ := Lib.hid hz
          have HM1 := Lib.hid hm1
          have hm1b : m1 ≤ 10000000000000000000 := by omega
          clear hz hm1
          go_wp2_with fail
          refine (HP.out _ HE.out).mono ?_
          rintro e5 w5 ⟨rfl, hb5⟩
          have HB5 := Lib.hid hb5
          have HE5 := Lib.hid (HE.out.below hb5 HE.out.size)
          clear hb5
          go_wp2_with fail
          refine (HP2.out _ HE5.out).mono ?_
          rintro e6 w6 ⟨rfl, hb6⟩
          have HB6 := Lib.hid (HB5.out.trans (hb6.mono HB5.out.size))
          have HE6 := Lib.hid (HE5.out.below hb6 HE5.out.size)
          clear hb6
          cases z with
          | true =>
            have HD := Lib.hid (a32_dec HSN.out HRF.out (DecT.both (T := T) (l := ns s) (r := ⟨man, exp, neg, true, false, n⟩) hm0 (show ¬ 40 < exp by omega) (show ¬ exp < -70 by omega) rfl (by
              have := HZ.out
              rw [HM1.out, HS.out] at this
              exact this.symm)) rfl)
            rw [← HS.out] at HD
            go_wp2_with fail
            go_ret3
            exact a32_mk HD.out HB6.out
          | false =>
            have HDS := Lib.hid (fun (er : Value) (h : SlowT ((ns s).take n) er) => a32_dec HSN.out HRF.out (DecT.slow (T := T) (l := ns s) (r := ⟨man, exp, neg, true, false, n⟩) hm0 (show ¬ 40 < exp by omega) (show ¬ exp < -70 by omega) rfl (by
              have := HZ.out
              rw [HM1.out, HS.out] at this
              exact this.symm) h) rfl)
            have hns : n ≤ s.size := by rw [← HLEN.out]; exact hn
            have htk : ns (s.extract 0 n) = (ns s).take n := by rw [ns_ext, List.drop_zero]
            have hset := set_all w6.heap.size (s.extract 0 n) 178 zcs (w6.alloc (.cells zcs 178)) (by rw [ByteArray.size_extract]; omega) (alloc_at _ _) zdec_raw zdec_nd zdec_dp
            rw [htk] at hset
            have HSET := Lib.hid hset
            have hBw : B ≤ w6.heap.size := HE6.out.size
            clear hset htk
            go_wp2_with fail
            refine HSET.out.mono ?_
            rintro e7 w7 ⟨ok, rfl, hst⟩
            rcases hsf : setF ((ns s).take n) with _ | st
            · rw [hsf] at hst
              obtain ⟨rfl, hu⟩ := hst
              have HD := Lib.hid (HDS.out errSyn (SlowT.none hsf))
              have HB7 := Lib.hid (HB6.out.trans (((below_alloc w6 _).trans (hu.below (Nat.le_refl _))).mono HB6.out.size))
              clear hsf hu
              go_wp2_with fail
              go_ret3
              exact a32_mk HD.out HB7.out
            · rw [hsf] at hst
              obtain ⟨rfl, hd1, hd2, cs, hm⟩ := hst
              have hb7 := (below_alloc w6 (.cells zcs 178)).trans (hm.upd.below (Nat.le_refl _))
              have HE7 := Lib.hid (HE6.out.below hb7 HE6.out.size)
              have HB7 := Lib.hid (HB6.out.trans (hb7.mono HB6.out.size))
              have HM := Lib.hid hm
              have HSF := Lib.hid hsf
              clear hb7 hm hsf
              by_cases hnd : st.nd = 0
              · have HFB := Lib.hid (fbits_zero w6.heap.size B w7 178 cs HM.out.obj HM.out.raw (by have := HM.out.cnd; rw [hnd] at this; exact this) HE7.out.fe)
                have HD := Lib.hid (HDS.out .nilIface (SlowT.zero HSF.out hnd))
                clear hnd
                go_wp2_with fail
                refine HFB.out.mono ?_
                rintro e8 w8 ⟨⟨bits, rfl⟩, hu⟩
                have HB8 := Lib.hid (HB7.out.trans ((hu.below (Nat.le_refl _)).mono HB6.out.size))
                clear hu
                go_wp2_with fail
                go_ret3
                exact a32_mk HD.out HB8.out
              · have HFB := Lib.hid (fbits_any w6.heap.size B st 178 w7 (HM.out.decS hnd) HE7.out.fe hBw (by omega))
                have HD := Lib.hid (fun (o : Bool) (h : FBits st o) => HDS.out (errV o) (SlowT.num HSF.out hnd h))
                clear hnd
                go_wp2_with fail
                refine HFB.out.mono ?_
                rintro e8 w8 ⟨bits, o, rfl, hfb, hu⟩
                have HB8 := Lib.hid (HB7.out.trans ((hu.below (Nat.le_refl _)).mono HB6.out.size))
                have HD2 := Lib.hid (HD.out o hfb)
                clear hu hfb
                cases o with
                | true =>
                  go_wp2_with fail
                  go_ret3
                  exact a32_mk HD2.out HB8.out
                | false =>
                  go_wp2_with fail
                  go_ret3
                  exact a32_mk HD2.out HB8.out
  · have hsp := HSP.out
    rw [hspn] at hsp
    obtain ⟨fb, hodd, rfl⟩ := hsp
    obtain ⟨r, q, hr⟩ := conv64 fb w1
    have HD := Lib.hid (a32_sp (T := T) hspn)
    clear hodd hspn HSP
    go_wp2_with fail
    go_ret3
    exact a32_mk HD.out (below_drewN _ _ _)
end Go.Proofs.YtiebedcldbmlhaaGreatDoor.Fl
namespace Go.Proofs.YtiebedcldbmlhaaGreatDoor.Fl
open Go.RowKit
set_option linter.unusedVariables false

/-- A text is a number within the range of the floats of 32 bits. -/
def OkF (T : Nat → Nat × Nat) (l : List Nat) : Prop := A32 T l l.length .nilIface
theorem errV_ne (b : Bool) : errV b = .nilIface ↔ b = false := by
  cases b
  · exact ⟨fun _ => rfl, fun _ => rfl⟩
  · exact ⟨(fun h => by cases h), (fun h => by cases h)⟩
theorem SlowT.uniq {l : List Nat} {er er' : Value} (h : SlowT l er) (k : SlowT l er') : er = er' := by
  unfold SlowT at h k
  split at h
  · simp_all
  · split at h
    · simp_all
    · rename_i st hst hn
      rw [hst] at k
      simp only at k
      rw [if_neg hn] at k
      obtain ⟨o, h1, rfl⟩ := h
      obtain ⟨o', k1, rfl⟩ := k
      rw [h1.uniq k1]
theorem DecT.uniq {T : Nat → Nat × Nat} {l : List Nat} {r : Rd} {er er' : Value} (h : DecT T l r er) (k : DecT T l r er') : er = er' := by
  unfold DecT at h k
  split at h
  · simp_all
  rename_i c1
  rw [if_neg c1] at k
  split at h
  · simp_all
  rename_i c2
  rw [if_neg c2] at k
  split at h
  · simp_all
  rename_i c3
  rw [if_neg c3] at k
  split at h
  · simp_all
  rename_i c4
  rw [if_neg c4] at k
  split at h
  · simp_all
  rename_i c5
  rw [if_neg c5] at k
  exact h.uniq k
theorem A32.uniq {T : Nat → Nat × Nat} {l : List Nat} {n n' : Nat} {er : Value} (h : A32 T l n er) (k : A32 T l n' .nilIface) : er = .nilIface ∧ n = n' := by
  unfold A32 at h k
  split at h
  · rename_i x hx
    rw [hx] at k
    exact ⟨h.2, h.1.trans k.1.symm⟩
  · rename_i hx
    rw [hx] at k
    split at h
    · rename_i hy
      simp only at k
      rw [hy] at k
      cases k
    · rename_i r hy
      simp only at k
      rw [hy] at k
      obtain ⟨h1, h2⟩ := h
      obtain ⟨k1, k2⟩ := k
      refine ⟨?_, h1.trans k1.symm⟩
      by_cases hh : r.hx = true
      · rw [if_pos hh] at h2 k2
        rw [h2]; exact k2.symm
      · rw [if_neg hh] at h2 k2
        exact h2.uniq k2
theorem SlowT.err {l : List Nat} {er : Value} (h : SlowT l er) : er = .nilIface ∨ er = errSyn ∨ er = errV true := by
  unfold SlowT at h
  split at h
  · exact .inr (.inl h)
  · split at h
    · exact .inl h
    · obtain ⟨o, _, rfl⟩ := h
      cases o
      · exact .inl rfl
      · exact .inr (.inr rfl)
theorem errV_err (b : Bool) : errV b = .nilIface ∨ errV b = errSyn ∨ errV b = errV true := by
  cases b
  · exact .inl rfl
  · exact .inr (.inr rfl)
theorem DecT.err {T : Nat → Nat × Nat} {l : List Nat} {r : Rd} {er : Value} (h : DecT T l r er) : er = .nilIface ∨ er = errSyn ∨ er = errV true := by
  unfold DecT at h
  repeat' split at h
  · exact .inl h
  · exact .inr (.inr h)
  · exact .inl h
  · rw [h]; exact errV_err _
  · rw [h]; exact errV_err _
  · exact h.err
theorem A32.err {T : Nat → Nat × Nat} {l : List Nat} {n : Nat} {er : Value} (h : A32 T l n er) : er = .nilIface ∨ er = errSyn ∨ er = errV true := by
  unfold A32 at h
  split at h
  · exact .inl h.2
  · split at h
    · exact .inr (.inl h)
    · rename_i r hr
      obtain ⟨h1, h2⟩ := h
      by_cases hh : r.hx = true
      · rw [if_pos hh] at h2
        rw [h2]; exact errV_err _
      · rw [if_neg hh] at h2
        exact h2.err
/-- A text is none, and something was told of it. -/
def NoF (T : Nat → Nat × Nat) (l : List Nat) : Prop := (∃ n er, A32 T l n er) ∧ ¬ OkF T l
/-- What the inner ParseFloat hands back. -/
def PfErr (T : Nat → Nat × Nat) (l : List Nat) (er : Value) : Prop := (er = .nilIface ∧ OkF T l) ∨ (NoF T l ∧ (er = errSyn ∨ er = errV true))
theorem pf_len {T : Nat → Nat × Nat} {l : List Nat} {n : Nat} {er : Value} (h : A32 T l n er) (hn : n = l.length) : PfErr T l er := by
  subst hn
  rcases h.err with rfl | he
  · exact .inl ⟨rfl, h⟩
  · refine .inr ⟨⟨⟨_, _, h⟩, fun hk => ?_⟩, he⟩
    have h1 := (h.uniq hk).1
    subst h1
    rcases he with he | he <;> cases he
theorem pf_other {T : Nat → Nat × Nat} {l : List Nat} {n : Nat} {er : Value} (h : A32 T l n er) (hn : n ≠ l.length) : PfErr T l errSyn :=
  .inr ⟨⟨⟨_, _, h⟩, fun hk => hn (h.uniq hk).2⟩, .inl rfl⟩
def PpPost (T : Nat → Nat × Nat) (l : List Nat) (w : World) (e : Ending) (w' : World) : Prop := ∃ (fb n : Nat) (er : Value), e = .returned (.tuple #[.float .f64 fb, .int .i64 n, er]) ∧ A32 T l n er ∧ Below w.heap.size w w'
theorem conv32 (fb : Nat) (w : World) : ∃ r q, (convert 150 92 (.float .f32 fb)).run Tryz.prog w = .ok (.float .f64 r) (w.drewN q) :=
  fconv_run _ _ _ _ fb _ Tryz.underlying150 Tryz.underlying92 w
set_option maxHeartbeats 1000000 in
set_option maxRecDepth 100000 in
theorem pfpre_any (T : Nat → Nat × Nat) (B : Nat) (s : ByteArray) (w : World) (hs : s.size ≤ 1000000000) (hE : AEnv T w B) :
    Calls Tryz.prog 91 #[.string s, .int .i64 32] w (PpPost T (ns s) w) := by
  have HA := Lib.hid (atof32_any T B s w hs hE)
  clear hE
  go_enter Tryz.func91, Tryz.ntmps91
  go_wp2_with fail
  refine HA.out.mono ?_
  rintro e w1 ⟨fb, n, er, rfl, ha, hb⟩
  have HX := Lib.hid ha
  have HB := Lib.hid hb
  obtain ⟨r, q, hr⟩ := conv32 fb w1
  clear ha hb
  go_wp2_with fail
  go_ret3
  exact ⟨r, n, er, rfl, HX.out, HB.out.trans (below_drewN _ _ _)⟩
def IpfPost (T : Nat → Nat × Nat) (l : List Nat) (w : World) (e : Ending) (w' : World) : Prop := ∃ (fb : Nat) (er : Value), e = .returned (.tuple #[.float .f64 fb, er]) ∧ PfErr T l er ∧ Below w.heap.size w w'
set_option maxHeartbeats 1000000 in
set_option maxRecDepth 100000 in
theorem ipf_any (T : Nat → Nat × Nat) (B : Nat) (s : ByteArray) (w : World) (hs : s.size ≤ 1000000000) (hE : AEnv T w B) :
    Calls Tryz.prog 60 #[.string s, .int .i64 32] w (IpfPost T (ns s) w) := by
  have HA := Lib.hid (pfpre_any T B s w hs hE)
  clear hE
  go_enter Tryz.func60, Tryz.ntmps60
  go_wp2_with fail
  refine HA.out.mono ?_
  rintro e w1 ⟨fb, n, er, rfl, ha, hb⟩
  have HX := Lib.hid ha
  have HB := Lib.hid hb
  clear ha hb
  by_cases hn : n = s.size
  · have hnd : ((n : Int) != (s.size : Int)) = false := by rw [hn]; simp
    have HN := Lib.hid (pf_len HX.out (hn.trans (ns_len s).symm))
    clear hn
    go_wp2_with fail
    go_ret2
    exact ⟨fb, er, rfl, HN.out, HB.out⟩
  · have hnd : ((n : Int) != (s.size : Int)) = true := bne_iff_ne.2 (by omega)
    have HN := Lib.hid (pf_other HX.out (fun h => hn (h.trans (ns_len s))))
    clear hn
    go_wp2_with fail
    go_ret2
    exact ⟨0, errSyn, rfl, HN.out, HB.out⟩
end Go.Proofs.YtiebedcldbmlhaaGreatDoor.Fl
namespace Go.Proofs.YtiebedcldbmlhaaGreatDoor.Fl
open Go.RowKit
set_option linter.unusedVariables false

/-- The package-level errors hold interface values. -/
structure EEnv (w : World) : Prop where
  e2 : ∃ te pe, w.cell? ⟨2, 0, none⟩ = some (.iface te pe)
  e3 : ∃ te pe, w.cell? ⟨3, 0, none⟩ = some (.iface te pe)
  size : 2 < w.heap.size ∧ 3 < w.heap.size
theorem EEnv.below {B : Nat} {w w' : World} (h : EEnv w) (hb : Below B w w') (hB : w.heap.size ≤ B) : EEnv w' := by
  obtain ⟨t, p, h2⟩ := h.e2
  obtain ⟨t', p', h3⟩ := h.e3
  have := hb.size
  have hs := h.size
  exact ⟨⟨t, p, (hb.cell (p := ⟨2, 0, none⟩) (show 2 < B by omega)).trans h2⟩, ⟨t', p', (hb.cell (p := ⟨3, 0, none⟩) (show 3 < B by omega)).trans h3⟩, by omega, by omega⟩
/-- The error that strconv.ParseFloat hands back. -/
def SpfErr (T : Nat → Nat × Nat) (l : List Nat) (ev : Value) : Prop := (ev = .nilIface ∧ OkF T l) ∨ (NoF T l ∧ ∃ N, ev = .iface 126 (.pointer (some ⟨N, 0, none⟩)))
def SpfPost (T : Nat → Nat × Nat) (l : List Nat) (w : World) (e : Ending) (w' : World) : Prop := ∃ (fb : Nat) (ev : Value), e = .returned (.tuple #[.float .f64 fb, ev]) ∧ SpfErr T l ev ∧ Below w.heap.size w w'
theorem syn_ne (w : World) : (binOp .neq 86 errSyn .nilIface).run Tryz.prog w = .ok (.bool true) w := by kernel_rfl
theorem rng_ne (w : World) : (binOp .neq 86 (errV true) .nilIface).run Tryz.prog w = .ok (.bool true) w := by kernel_rfl
set_option maxHeartbeats 1000000 in
set_option maxRecDepth 100000 in
theorem spf_any (T : Nat → Nat × Nat) (B : Nat) (s : ByteArray) (w : World) (hs : s.size ≤ 1000000000) (hE : AEnv T w B) (hEE : EEnv w) :
    Calls Tryz.prog 47 #[.string s, .int .i64 32] w (SpfPost T (ns s) w) := by
  have HA := Lib.hid (ipf_any T B s w hs hE)
  have HEE := Lib.hid hEE
  clear hE hEE
  go_enter Tryz.func47, Tryz.ntmps47
  go_wp2_with fail
  refine HA.out.mono ?_
  rintro e w1 ⟨fb, er, rfl, hp, hb⟩
  have HB := Lib.hid hb
  have HE1 := Lib.hid (HEE.out.below hb (Nat.le_refl _))
  clear hb
  rcases hp with ⟨rfl, hok⟩ | ⟨hno, rfl | rfl⟩
  · have HO := Lib.hid hok
    clear hok
    go_wp2_with fail
    go_ret2
    exact ⟨fb, .nilIface, rfl, .inl ⟨rfl, HO.out⟩, HB.out⟩
  · have HO := Lib.hid hno
    obtain ⟨te, pe, hv⟩ := HE1.out.e2
    have hne := syn_ne
    unfold errSyn at hne ⊢
    have HC := Lib.hid (Tryz.strconv_toError_syntax ⟨#[80, 97, 114, 115, 101, 70, 108, 111, 97, 116]⟩ s 0 32 _ w1 (by omega) hv (.inr ⟨te, pe, rfl⟩))
    clear hno hv
    go_wp2_with fail
    refine HC.out.mono ?_
    rintro e2 w2 ⟨N, rfl, _, _, hb2⟩
    have HB2 := Lib.hid (HB.out.trans (hb2.mono HB.out.size))
    clear hb2
    go_wp2_with fail
    go_ret2
    exact ⟨fb, _, rfl, .inr ⟨HO.out, N, rfl⟩, HB2.out⟩
  · have HO := Lib.hid hno
    obtain ⟨te, pe, hv⟩ := HE1.out.e3
    have hne := rng_ne
    have he : errV true = .iface 123 (.int .i64 1) := rfl
    rw [he] at hne ⊢
    have HC := Lib.hid (Tryz.strconv_toError_range ⟨#[80, 97, 114, 115, 101, 70, 108, 111, 97, 116]⟩ s 0 32 _ w1 (by omega) hv (.inr ⟨te, pe, rfl⟩))
    clear hno hv he
    go_wp2_with fail
    refine HC.out.mono ?_
    rintro e2 w2 ⟨N, rfl, _, _, hb2⟩
    have HB2 := Lib.hid (HB.out.trans (hb2.mono HB.out.size))
    clear hb2
    go_wp2_with fail
    go_ret2
    exact ⟨fb, _, rfl, .inr ⟨HO.out, N, rfl⟩, HB2.out⟩
end Go.Proofs.YtiebedcldbmlhaaGreatDoor.Fl
