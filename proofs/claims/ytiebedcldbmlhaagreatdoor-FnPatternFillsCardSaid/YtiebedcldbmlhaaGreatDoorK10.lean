/-
  Joined: The decimal's set.
  Conditions: each law's own.
-/
import Derived.Test.YtiebedcldbmlhaaGreatDoorK09
namespace Go.Proofs.YtiebedcldbmlhaaGreatDoor.Fl
open Go.RowKit
set_option linter.unusedVariables false

/-- A decimal in memory while its text is read. -/
structure SetM (w wx : World) (c : Nat) (T : TypeId) (D nd : Nat) (dp : Int) (tr : Bool) (cs : Array Value) : Prop where
  upd : Upd c w wx
  obj : wx.heap[c]? = some (.cells cs T (0, 0))
  raw : Raw cs
  cnd : cs[800]? = some (.int .i64 nd)
  cdp : cs[801]? = some (.int .i64 dp)
  ctr : cs[803]? = some (.bool tr)
  dig : DigAt cs D nd
  le : nd ≤ 800
  ld : (nd = 0 ∧ D = 0) ∨ Lead D nd
theorem SetM.drewN {w wx : World} {c : Nat} {T : TypeId} {D nd : Nat} {dp : Int} {tr : Bool} {cs : Array Value} (h : SetM w wx c T D nd dp tr cs) (n : Nat) : SetM w (wx.drewN n) c T D nd dp tr cs :=
  ⟨h.upd.drewN n, h.obj, h.raw, h.cnd, h.cdp, h.ctr, h.dig, h.le, h.ld⟩
theorem SetM.drew {w wx : World} {c : Nat} {T : TypeId} {D nd : Nat} {dp : Int} {tr : Bool} {cs : Array Value} (h : SetM w wx c T D nd dp tr cs) : SetM w wx.drew c T D nd dp tr cs :=
  ⟨h.upd.trans ⟨rfl, rfl, rfl, rfl, fun _ _ => rfl⟩, h.obj, h.raw, h.cnd, h.cdp, h.ctr, h.dig, h.le, h.ld⟩
theorem SetM.setDp {w wx : World} {c : Nat} {T : TypeId} {D nd : Nat} {dp : Int} {tr : Bool} {cs : Array Value} (h : SetM w wx c T D nd dp tr cs) (x : Int) : SetM w (wx.setCell ⟨c, 801, none⟩ (.int .i64 x)) c T D nd x tr (cs.setIfInBounds 801 (.int .i64 x)) :=
  ⟨h.upd.set _ _, obj_set _ h.obj, h.raw.setInt (.inr rfl), by rw [set_other (by omega)]; exact h.cnd, set_same (by rw [h.raw.size]; omega), by rw [set_other (by omega)]; exact h.ctr, h.dig.set (by have := h.le; omega), h.le, h.ld⟩
theorem SetM.tru {w wx : World} {c : Nat} {T : TypeId} {D nd : Nat} {dp : Int} {tr : Bool} {cs : Array Value} (h : SetM w wx c T D nd dp tr cs) : SetM w (wx.setCell ⟨c, 803, none⟩ (.bool true)) c T D nd dp true (cs.setIfInBounds 803 (.bool true)) :=
  ⟨h.upd.set _ _, obj_set _ h.obj, h.raw.setTr true, by rw [set_other (by omega)]; exact h.cnd, by rw [set_other (by omega)]; exact h.cdp, set_same (by rw [h.raw.size]; omega), h.dig.set (by have := h.le; omega), h.le, h.ld⟩
theorem SetM.neg {w wx : World} {c : Nat} {T : TypeId} {D nd : Nat} {dp : Int} {tr : Bool} {cs : Array Value} (h : SetM w wx c T D nd dp tr cs) (b : Bool) : SetM w (wx.setCell ⟨c, 802, none⟩ (.bool b)) c T D nd dp tr (cs.setIfInBounds 802 (.bool b)) := by
  refine ⟨h.upd.set _ _, obj_set _ h.obj, ⟨by simp [h.raw.size], fun i hi => by rw [set_other (by omega)]; exact h.raw.byte i hi, ⟨b, set_same (by rw [h.raw.size]; omega)⟩, by rw [set_other (by omega)]; exact h.raw.tr⟩, by rw [set_other (by omega)]; exact h.cnd, by rw [set_other (by omega)]; exact h.cdp, by rw [set_other (by omega)]; exact h.ctr, h.dig.set (by have := h.le; omega), h.le, h.ld⟩
theorem SetM.start {w : World} {c : Nat} {T : TypeId} {cs0 : Array Value} (ho : w.heap[c]? = some (.cells cs0 T (0, 0))) (hr : Raw cs0) (hn : cs0[800]? = some (.int .i64 0)) (hp : cs0[801]? = some (.int .i64 0)) :
    ∃ cs, SetM w ((w.setCell ⟨c, 802, none⟩ (.bool false)).setCell ⟨c, 803, none⟩ (.bool false)) c T 0 0 0 false cs := by
  have hr1 : Raw (cs0.setIfInBounds 802 (.bool false)) := ⟨by simp [hr.size], fun i hi => by rw [set_other (by omega)]; exact hr.byte i hi, ⟨false, set_same (by rw [hr.size]; omega)⟩, by rw [set_other (by omega)]; exact hr.tr⟩
  exact ⟨_, ((Upd.refl _ _).set _ _).set _ _, obj_set _ (obj_set _ ho), hr1.setTr false, by rw [set_other (by omega), set_other (by omega)]; exact hn, by rw [set_other (by omega), set_other (by omega)]; exact hp, set_same (by rw [hr1.size]; omega), fun i hi => absurd hi (Nat.not_lt_zero _), Nat.zero_le _, .inl ⟨rfl, rfl⟩⟩
theorem SetM.put {w wx : World} {c : Nat} {T : TypeId} {D nd : Nat} {dp : Int} {tr : Bool} {cs : Array Value} (h : SetM w wx c T D nd dp tr cs) {x : Nat} (h1 : 48 ≤ x) (h2 : x ≤ 57) (h3 : ¬ (x = 48 ∧ nd = 0)) (h4 : nd < 800) :
    SetM w ((wx.setCell ⟨c, nd, none⟩ (.int .u8 (x : Int))).setCell ⟨c, 800, none⟩ (.int .i64 ((nd + 1 : Nat) : Int))) c T (10 * D + (x - 48)) (nd + 1) dp tr ((cs.setIfInBounds nd (.int .u8 (x : Int))).setIfInBounds 800 (.int .i64 ((nd + 1 : Nat) : Int))) := by
  have hr := h.raw.set (b := x) h4 (by omega)
  refine ⟨(h.upd.set _ _).set _ _, obj_set _ (obj_set _ h.obj), hr.setInt (.inl rfl), set_same (by rw [hr.size]; omega), ?_, ?_, ?_, by omega, .inr ?_⟩
  · rw [set_other (by omega), set_other (by omega)]; exact h.cdp
  · rw [set_other (by omega), set_other (by omega)]; exact h.ctr
  · intro i hi
    rw [set_other (by omega)]
    by_cases e : nd = i
    · subst e
      rw [show nd + 1 - 1 - nd = 0 by omega, (dgt_snoc (show x - 48 < 10 by omega) (j := 0)).2, show 48 + (x - 48) = x by omega]
      exact set_same (by rw [h.raw.size]; omega)
    · rw [set_other e, show nd + 1 - 1 - i = (nd - 1 - i) + 1 by omega, (dgt_snoc (show x - 48 < 10 by omega)).1]
      exact h.dig i (by omega)
  · exact lead_snoc (by omega) (by
      rcases h.ld with ⟨h5, h6⟩ | h5
      · exact .inl ⟨h5, h6, by omega⟩
      · exact .inr h5)
/-- What set hands back. -/
def SetIs (x : Option St) (ok : Bool) (c : Nat) (T : TypeId) (w w' : World) : Prop :=
  match x with
  | some st => ok = true ∧ -3000000000 ≤ st.dp ∧ st.dp ≤ 3000000000 ∧ ∃ cs, SetM w w' c T st.D st.nd st.dp st.tr cs
  | none => ok = false ∧ Upd c w w'
def SetPost (l : List Nat) (c : Nat) (T : TypeId) (w : World) (e : Ending) (w' : World) : Prop := ∃ ok : Bool, e = .returned (.bool ok) ∧ SetIs (setF l) ok c T w w'
theorem set_none {l : List Nat} {c : Nat} {T : TypeId} {w w' : World} (h : setF l = none) (hu : Upd c w w') : SetPost l c T w (.returned (.bool false)) w' := ⟨false, rfl, by rw [h]; exact ⟨rfl, hu⟩⟩
theorem set_some {l : List Nat} {c : Nat} {T : TypeId} {w w' : World} {st : St} {cs : Array Value} (h : setF l = some st) (h1 : -3000000000 ≤ st.dp) (h2 : st.dp ≤ 3000000000) (hu : SetM w w' c T st.D st.nd st.dp st.tr cs) : SetPost l c T w (.returned (.bool true)) w' := ⟨true, rfl, by rw [h]; exact ⟨rfl, h1, h2, cs, hu⟩⟩
theorem sd_go {r r' : Sd} {c : Nat} {l : List Nat} (h : sdStep r c = .go r') : sdRun r (c :: l) = sdRun r' l := by rw [sdRun, h]
theorem sd_stop {r : Sd} {c : Nat} {l : List Nat} (h : sdStep r c = .stop) : sdRun r (c :: l) = some (r, c :: l) := by rw [sdRun, h]
theorem sd_fail {r : Sd} {c : Nat} {l : List Nat} (h : sdStep r c = .fail) : sdRun r (c :: l) = none := by rw [sdRun, h]

set_option maxHeartbeats 4000000 in
set_option maxRecDepth 100000 in
theorem set_any (c : Nat) (s : ByteArray) (T : TypeId) (cs0 : Array Value) (w : World) (hs : s.size ≤ 1000000000) (h0 : 0 < s.size) (ho : w.heap[c]? = some (.cells cs0 T (0, 0))) (hr : Raw cs0) (hn : cs0[800]? = some (.int .i64 0)) (hp : cs0[801]? = some (.int .i64 0)) :
    Calls Tryz.prog 118 #[.pointer (some ⟨c, 0, none⟩), .string s] w (SetPost (ns s) c T w) := by
  have hne : decide ((s.size : Int) ≤ 0) = false := decide_eq_false (by omega)
  have hpos : (0 : Int) < (s.size : Int) := by omega
  have hemp : decide (s = ByteArray.empty) = false := decide_eq_false (by rintro rfl; exact absurd h0 (by decide))
  obtain ⟨x0, hc⟩ : ∃ x0 : Nat, (s[0]'h0).toNat = x0 := ⟨_, rfl⟩
  have hcons : ns s = x0 :: (ns s).drop 1 := by
    have := ns_drop s 0 h0
    rw [List.drop_zero, Nat.zero_add, hc] at this
    exact this
  have hsg := sign_cases _ x0 _ hcons
  have HSG := Lib.hid hsg
  have HCO := Lib.hid hcons
  obtain ⟨n0, hn0⟩ := hr.neg
  obtain ⟨t0, ht0⟩ := hr.tr
  have c2 := obj_cell (i := 802) ho hn0
  have c3 := obj_cell (i := 803) ho ht0
  have f2 := obj_free (i := 802) ho
  have f3 := obj_free (i := 803) ho
  have HO := Lib.hid ho
  have HRW := Lib.hid hr
  have HCN := Lib.hid hn
  have HCP := Lib.hid hp
  clear hsg hcons ho hr hn hp hn0 ht0
  go_enter Tryz.func118, Tryz.ntmps118
  go_upto_block 0 with fail
  go_cut [5] from 23 to 33 (fun i wx => ∃ (k : Nat) (cs : Array Value), i = .int .i64 k ∧ k ≤ 1 ∧ k ≤ s.size ∧ (signOf (ns s)).2 = (ns s).drop k ∧ SetM w wx c T 0 0 0 false cs)
  case first =>
    obtain ⟨cs1, hm1⟩ := SetM.start HO.out HRW.out HCN.out HCP.out
    have HM1 := Lib.hid hm1
    clear hm1
    rcases HSG.out with ⟨h1, h2⟩ | ⟨h1, h2⟩ | ⟨h1, h2, h3⟩
    · subst h1
      have H2 := Lib.hid h2
      clear h2
      go_wp2_with fail
      go_meet
      exact ⟨1, cs1, rfl, Nat.le_refl _, h0, by rw [H2.out], HM1.out⟩
    · subst h1
      have H2 := Lib.hid h2
      clear h2
      go_wp2_with fail
      go_meet
      exact ⟨1, _, rfl, Nat.le_refl _, h0, by rw [H2.out], HM1.out.neg true⟩
    · have b1 : ((x0 : Int) == 43) = false := beq_eq_false_iff_ne.2 (by omega)
      have b2 : ((x0 : Int) == 45) = false := beq_eq_false_iff_ne.2 (by omega)
      have H2 := Lib.hid h3
      clear h1 h2 h3
      go_wp2_with fail
      go_meet
      exact ⟨0, cs1, rfl, Nat.zero_le _, Nat.zero_le _, by rw [H2.out, List.drop_zero, ← HCO.out], HM1.out⟩
  case rest =>
  obtain ⟨k0, cs1, rfl, hk0, hk0s, hsg, hm1⟩ := hcut
  have HS2 := Lib.hid hsg
  have HM1 := Lib.hid hm1
  have hset : setF (ns s) = (match sdRun sd0 ((ns s).drop k0) with
    | none => none
    | some (r, rest) => sdTail r rest) := by
    unfold setF
    rw [if_neg (by rw [HCO.out]; exact List.cons_ne_nil _ _), hsg]
    rfl
  have HSET := Lib.hid hset
  clear hsg hm1 hset c2 c3 f2 f3
  go_upto_block 1 with fail
  go_cut [5, 6, 7] from 34 to 116 (fun i d g wx => ∃ (D nd : Nat) (dp : Int) (tr dot dig : Bool) (k : Nat) (cs : Array Value), i = .int .i64 k ∧ d = .bool dot ∧ g = .bool dig ∧ k ≤ s.size ∧ nd ≤ k ∧ -(k : Int) ≤ dp ∧ dp ≤ k ∧ sdRun sd0 ((ns s).drop k0) = some (⟨D, nd, dp, tr, dot, dig⟩, (ns s).drop k) ∧ SetM w wx c T D nd dp tr cs)
  case first =>
    go_wp2_with fail
    go_loopw [5, 6, 7] (fun i d g wx => ∃ (D nd : Nat) (dp : Int) (tr dot dig : Bool) (k : Nat) (cs : Array Value), i = .int .i64 k ∧ d = .bool dot ∧ g = .bool dig ∧ k ≤ s.size ∧ nd ≤ k ∧ -(k : Int) ≤ dp ∧ dp ≤ k ∧ sdRun sd0 ((ns s).drop k0) = sdRun ⟨D, nd, dp, tr, dot, dig⟩ ((ns s).drop k) ∧ SetM w wx c T D nd dp tr cs) (fun i d g wx => s.size - (intOf i).toNat)
    case atStart => exact ⟨0, 0, 0, false, false, false, k0, cs1, rfl, rfl, rfl, hk0s, Nat.zero_le _, by omega, by omega, rfl, HM1.out⟩
    case round =>
      obtain ⟨D, nd, dp, tr, dot, dig, k, cs, rfl, rfl, rfl, hks, hndk, hdp1, hdp2, hz, hm⟩ := hrel
      have c8 := obj_cell (i := 800) hm.obj hm.cnd
      have c9 := obj_cell (i := 801) hm.obj hm.cdp
      have c3 := obj_cell (i := 803) hm.obj hm.ctr
      have f8 := obj_free (i := 800) hm.obj
      have f9 := obj_free (i := 801) hm.obj
      have f3 := obj_free (i := 803) hm.obj
      have HM := Lib.hid hm
      have hnd8 := hm.le
      clear hm
      by_cases hlt : k < s.size
      · have hdr := ns_drop s k hlt
        have hx256 := ns_lt s k hlt
        obtain ⟨x, hxe⟩ : ∃ x : Nat, (s[k]'hlt).toNat = x := ⟨_, rfl⟩
        rw [hxe] at hdr hx256
        have hz2 : sdRun sd0 ((ns s).drop k0) = sdRun ⟨D, nd, dp, tr, dot, dig⟩ (x :: (ns s).drop (k + 1)) := by rw [hz, hdr]
        have HZ2 := Lib.hid hz2
        have HDR := Lib.hid hdr
        clear hz hz2 hdr
        by_cases h95 : x = 95
        · subst h95
          have HF := Lib.hid (HZ2.out.trans (sd_go (r' := ⟨D, nd, dp, tr, dot, dig⟩) rfl))
          go_wp2_with fail
          go_roundw
          case rel => exact ⟨D, nd, dp, tr, dot, dig, k + 1, cs, by go_num, rfl, rfl, by omega, by omega, by omega, by omega, HF.out, HM.out⟩
          case measure => simp [intOf]; omega
        have b95 : ((x : Int) == 95) = false := beq_eq_false_iff_ne.2 (by omega)
        by_cases h46 : x = 46
        · subst h46
          cases dot with
          | true =>
            have HF := Lib.hid (HZ2.out.trans (sd_fail rfl))
            have HN := Lib.hid (show setF (ns s) = none by rw [HSET.out, HF.out])
            go_wp2_with fail
            go_ret
            exact set_none HN.out HM.out.upd
          | false =>
            have HF := Lib.hid (HZ2.out.trans (sd_go (r' := ⟨D, nd, nd, tr, true, dig⟩) rfl))
            go_wp2_with fail
            go_roundw
            case rel => exact ⟨D, nd, nd, tr, true, dig, k + 1, _, by go_num, rfl, rfl, by omega, by omega, by omega, by omega, HF.out, HM.out.setDp nd⟩
            case measure => simp [intOf]; omega
        have b46 : ((x : Int) == 46) = false := beq_eq_false_iff_ne.2 (by omega)
        by_cases hdg : 48 ≤ x ∧ x ≤ 57
        · have g1 : decide ((48 : Int) ≤ (x : Int)) = true := decide_eq_true (by omega)
          have g2 : decide ((x : Int) ≤ 57) = true := decide_eq_true (by omega)
          have HDG := Lib.hid hdg
          clear hdg
          by_cases hz0 : x = 48 ∧ nd = 0
          · obtain ⟨rfl, rfl⟩ := hz0
            have HF := Lib.hid (HZ2.out.trans (sd_go (r' := ⟨D, 0, dp - 1, tr, dot, true⟩) rfl))
            go_wp2_with fail
            go_roundw
            case rel => exact ⟨D, 0, dp - 1, tr, dot, true, k + 1, _, by go_num, rfl, rfl, by omega, by omega, by omega, by omega, HF.out, HM.out.setDp (dp - 1)⟩
            case measure => simp [intOf]; omega
          · have hz1 : x ≠ 48 ∨ (x = 48 ∧ nd ≠ 0) := by omega
            have HZ0 := Lib.hid hz0
            clear hz0
            by_cases h8 : nd < 800
            · have h8d : decide ((nd : Int) < 800) = true := decide_eq_true (by omega)
              have h8i : (nd : Int) < 800 := by omega
              have HF := Lib.hid (HZ2.out.trans (sd_go (r' := ⟨10 * D + (x - 48), nd + 1, dp, tr, dot, true⟩) (by unfold sdStep; simp only; rw [if_neg h95, if_neg h46, if_pos HDG.out, if_neg HZ0.out, if_pos h8])))
              obtain ⟨b0, _, hb0⟩ := HM.out.raw.byte nd h8
              have cn := obj_cell (i := nd) HM.out.obj hb0
              have fn := obj_free (i := nd) HM.out.obj
              clear hb0
              rcases hz1 with hz1 | ⟨hz1, hz1'⟩
              · have b48 : ((x : Int) == 48) = false := beq_eq_false_iff_ne.2 (by omega)
                go_wp2_with fail
                go_region
                go_wp2_with fail
                go_roundw
                case rel => exact ⟨10 * D + (x - 48), nd + 1, dp, tr, dot, true, k + 1, _, by go_num, rfl, rfl, by omega, by omega, by omega, by omega, HF.out, (HM.out.put HDG.out.1 HDG.out.2 HZ0.out h8).drew⟩
                case measure => simp [intOf]; omega
              · have b48 : ((x : Int) == 48) = true := by rw [hz1]; rfl
                have bnd : ((nd : Int) == 0) = false := beq_eq_false_iff_ne.2 (by omega)
                have hx48 : 48 ≤ x := by omega
                have hx57 : x ≤ 57 := by omega
                clear hz1
                go_wp2_with fail
                go_region
                go_wp2_with fail
                go_roundw
                case rel => exact ⟨10 * D + (x - 48), nd + 1, dp, tr, dot, true, k + 1, _, by go_num, rfl, rfl, by omega, by omega, by omega, by omega, HF.out, (HM.out.put HDG.out.1 HDG.out.2 HZ0.out h8).drew⟩
                case measure => simp [intOf]; omega
            · have h8d : decide ((nd : Int) < 800) = false := decide_eq_false (by omega)
              have h8i : ¬ (nd : Int) < 800 := by omega
              have HF := Lib.hid (HZ2.out.trans (sd_go (r' := ⟨D, nd, dp, tr || decide (x ≠ 48), dot, true⟩) (by unfold sdStep; simp only; rw [if_neg h95, if_neg h46, if_pos HDG.out, if_neg HZ0.out, if_neg h8])))
              rcases hz1 with hz1 | ⟨hz1, hz1'⟩
              · have b48 : ((x : Int) == 48) = false := beq_eq_false_iff_ne.2 (by omega)
                have n48 : ((x : Int) != 48) = true := bne_iff_ne.2 (by omega)
                rw [decide_eq_true hz1, Bool.or_true] at HF
                go_wp2_with fail
                go_roundw
                case rel => exact ⟨D, nd, dp, true, dot, true, k + 1, _, by go_num, rfl, rfl, by omega, by omega, by omega, by omega, HF.out, HM.out.tru⟩
                case measure => simp [intOf]; omega
              · have b48 : ((x : Int) == 48) = true := by rw [hz1]; rfl
                have n48 : ((x : Int) != 48) = false := by rw [hz1]; rfl
                have bnd : ((nd : Int) == 0) = false := beq_eq_false_iff_ne.2 (by omega)
                rw [decide_eq_false (not_not_intro hz1), Bool.or_false] at HF
                clear hz1
                go_wp2_with fail
                go_roundw
                case rel => exact ⟨D, nd, dp, tr, dot, true, k + 1, cs, by go_num, rfl, rfl, by omega, by omega, by omega, by omega, HF.out, HM.out⟩
                case measure => simp [intOf]; omega
        · have HF := Lib.hid (show sdRun sd0 ((ns s).drop k0) = some (⟨D, nd, dp, tr, dot, dig⟩, (ns s).drop k) by
            rw [HZ2.out, sd_stop (by unfold sdStep; rw [if_neg h95, if_neg h46, if_neg hdg]), ← HDR.out])
          have hc : x < 48 ∨ 57 < x := by omega
          clear hdg
          rcases hc with hc | hc
          · have g1 : decide ((48 : Int) ≤ (x : Int)) = false := decide_eq_false (by omega)
            go_wp2_with fail
            go_meet
            exact ⟨D, nd, dp, tr, dot, dig, k, cs, rfl, rfl, rfl, hks, hndk, hdp1, hdp2, HF.out, HM.out⟩
          · have g1 : decide ((48 : Int) ≤ (x : Int)) = true := decide_eq_true (by omega)
            have g2 : decide ((x : Int) ≤ 57) = false := decide_eq_false (by omega)
            go_wp2_with fail
            go_meet
            exact ⟨D, nd, dp, tr, dot, dig, k, cs, rfl, rfl, rfl, hks, hndk, hdp1, hdp2, HF.out, HM.out⟩
      · have hke : s.size ≤ k := by omega
        have HF := Lib.hid (show sdRun sd0 ((ns s).drop k0) = some (⟨D, nd, dp, tr, dot, dig⟩, (ns s).drop k) by
          rw [hz, ns_end s k hke, sdRun])
        have hd : decide (k < s.size) = false := decide_eq_false hlt
        clear hz
        go_wp2_with fail
        go_meet
        exact ⟨D, nd, dp, tr, dot, dig, k, cs, rfl, rfl, rfl, hks, hndk, hdp1, hdp2, HF.out, HM.out⟩
  case rest =>
  obtain ⟨D, nd, dp, tr, dot, dig, k, cs, rfl, rfl, rfl, hks, hndk, hdp1, hdp2, hz, hm⟩ := hcut
  have hset2 : setF (ns s) = sdTail ⟨D, nd, dp, tr, dot, dig⟩ ((ns s).drop k) := by rw [HSET.out, hz]
  have HSET2 := Lib.hid hset2
  have HM := Lib.hid hm
  clear hz hset2 HSET HS2 HSG HCO HM1 HO HRW HCN HCP
  cases dig with
  | false =>
    have HN := Lib.hid (show setF (ns s) = none by rw [HSET2.out]; rfl)
    clear hm
    go_wp2_with fail
    go_ret
    exact set_none HN.out HM.out.upd
  | true =>
    obtain ⟨dq, hdq⟩ : ∃ dq : Int, dq = if dot then dp else (nd : Int) := ⟨_, rfl⟩
    have hdq1 : -(k : Int) ≤ dq := by rw [hdq]; split <;> omega
    have hdq2 : dq ≤ k := by rw [hdq]; split <;> omega
    have hset3 : setF (ns s) = (match expOf false false dq ((ns s).drop k) with
        | some (dp, _, []) => some ⟨D, nd, dp, tr⟩
        | _ => none) := by
      rw [HSET2.out]
      unfold sdTail
      simp only
      rw [if_neg (show ¬ (true : Bool) = false by decide), ← hdq]
      rfl
    have HSET3 := Lib.hid hset3
    have HDQ := Lib.hid hdq
    have c8 := obj_cell (i := 800) hm.obj hm.cnd
    have c9 := obj_cell (i := 801) hm.obj hm.cdp
    have f9 := obj_free (i := 801) hm.obj
    clear hdq hset3 hm
    go_upto_if 120 with fail
    go_cut [] from 121 to 127 (fun wx => ∃ cs, SetM w wx c T D nd dq tr cs)
    case first =>
      cases dot with
      | true =>
        have h1 : dq = dp := HDQ.out
        subst h1
        go_wp2_with fail
        go_meet
        exact ⟨cs, HM.out⟩
      | false =>
        have h1 : dq = (nd : Int) := HDQ.out
        subst h1
        go_wp2_with fail
        go_meet
        exact ⟨_, HM.out.setDp nd⟩
    case rest =>
    obtain ⟨cs2, hm2⟩ := hcut
    clear c8 c9 f9 HM
    have HM2 := Lib.hid hm2
    have c9 := obj_cell (i := 801) hm2.obj hm2.cdp
    have f9 := obj_free (i := 801) hm2.obj
    clear hm2
    go_upto_region 32 with fail
    go_cut [138] from 128 to 138 (fun x wx => ∃ t : Bool, x = .bool t ∧ wx = wc ∧ IsE s k 101 t)
    case first =>
      by_cases hlt : k < s.size
      · have hd : decide (k < s.size) = true := decide_eq_true hlt
        have hdr := ns_drop s k hlt
        obtain ⟨x, hxe⟩ : ∃ x : Nat, (s[k]'hlt).toNat = x := ⟨_, rfl⟩
        have hx256 := ns_lt s k hlt
        rw [hxe] at hx256 hdr
        obtain ⟨y, hy⟩ : ∃ y, y = low x := ⟨_, rfl⟩
        have HLW := Lib.hid (lower_any x hx256)
        rw [← hy] at HLW
        have HY := Lib.hid hy
        have HDR := Lib.hid hdr
        clear hy hdr
        by_cases hyX : y = 101
        · subst hyX
          go_wp2_with (refine (HLW.out _).mono ?_; rintro e w' ⟨rfl, rfl⟩)
          go_meet
          exact ⟨true, rfl, rfl, fun _ => ⟨hlt, by rw [hxe, ← HY.out]⟩, (fun h => by cases h)⟩
        · have b : ((y : Int) == 101) = false := beq_eq_false_iff_ne.2 (by omega)
          have HYX := Lib.hid hyX
          clear hyX
          go_wp2_with (refine (HLW.out _).mono ?_; rintro e w' ⟨rfl, rfl⟩)
          go_meet
          exact ⟨false, rfl, rfl, (fun h => by cases h), fun _ => .inr ⟨x, _, HDR.out, by rw [← HY.out]; exact HYX.out⟩⟩
      · have hd : decide (k < s.size) = false := decide_eq_false hlt
        have HDR := Lib.hid (ns_end s k (by omega))
        go_wp2_with fail
        go_meet
        exact ⟨false, rfl, rfl, (fun h => by cases h), fun _ => .inl HDR.out⟩
    case rest =>
    obtain ⟨t, rfl, rfl, ht1, ht2⟩ := hcut
    have HT1 := Lib.hid ht1
    have HT2 := Lib.hid ht2
    clear ht1 ht2
    go_upto_if 138 with fail
    go_cut [5, 8, 9] from 139 to 219 (fun i _ _ wx => ∃ (us' : Bool) (P' : Int) (k' : Nat) (cs : Array Value), i = .int .i64 k' ∧ k' ≤ s.size ∧ -3000000000 ≤ P' ∧ P' ≤ 3000000000 ∧ expOf false false dq ((ns s).drop k) = some (P', us', (ns s).drop k') ∧ SetM w wx c T D nd P' tr cs)
    case first =>
      cases t with
      | false =>
        have hex : expOf false false dq ((ns s).drop k) = some (dq, false, (ns s).drop k) := by
          rcases HT2.out rfl with h1 | ⟨c, r, h1, h2⟩
          · rw [h1]; rfl
          · rw [h1, expOf_no h2]; rfl
        have HE := Lib.hid hex
        clear hex
        go_wp2_with fail
        go_meet
        exact ⟨false, dq, k, _, rfl, hks, by omega, by omega, HE.out, HM2.out⟩
      | true =>
        obtain ⟨hlt, hlow⟩ := HT1.out rfl
        have hdr := ns_drop s k hlt
        have hex : expOf false false dq ((ns s).drop k) = expTail false dq (signOf ((ns s).drop (k + 1))).1 (signOf ((ns s).drop (k + 1))).2 := by
          rw [hdr, expOf_yes hlow]
        have HEX := Lib.hid hex
        clear hdr hex hlow
        obtain ⟨q, hq⟩ : ∃ q, q = k + 1 := ⟨_, rfl⟩
        have hqi : (k : Int) + 1 = (q : Int) := by omega
        have hqs : q ≤ s.size := by omega
        have hqk : k < q := by omega
        rw [← hq] at HEX
        clear hq
        by_cases hlt2 : q < s.size
        · have hd : decide (s.size ≤ q) = false := decide_eq_false (by omega)
          have hdr := ns_drop s q hlt2
          obtain ⟨d, hdx⟩ : ∃ d : Nat, (s[q]'hlt2).toNat = d := ⟨_, rfl⟩
          rw [hdx] at hdr
          have hsg := sign_cases _ d _ hdr
          have HSG := Lib.hid hsg
          have HDR := Lib.hid hdr
          clear hsg hdr
          go_upto_block 4 with fail
          go_cut [5, 8] from 148 to 155 (fun i e wx => ∃ (sg : Bool) (q2 : Nat), i = .int .i64 q2 ∧ e = .int .i64 (if sg then -1 else 1) ∧ q ≤ q2 ∧ q2 ≤ s.size ∧ signOf ((ns s).drop q) = (sg, (ns s).drop q2) ∧ wx = wc)
          case first =>
            rcases HSG.out with ⟨h1, h2⟩ | ⟨h1, h2⟩ | ⟨h1, h2, h3⟩
            · subst h1
              have H2 := Lib.hid h2
              clear h2
              go_wp2_with fail
              go_meet
              exact ⟨false, q + 1, by go_num, rfl, by omega, by omega, H2.out, rfl⟩
            · subst h1
              have H2 := Lib.hid h2
              clear h2
              go_wp2_with fail
              go_meet
              exact ⟨true, q + 1, by go_num, rfl, by omega, by omega, H2.out, rfl⟩
            · have b1 : ((d : Int) == 43) = false := beq_eq_false_iff_ne.2 (by omega)
              have b2 : ((d : Int) == 45) = false := beq_eq_false_iff_ne.2 (by omega)
              have H2 := Lib.hid h3
              clear h1 h2 h3
              go_wp2_with fail
              go_meet
              exact ⟨false, q, rfl, rfl, Nat.le_refl _, hqs, by rw [H2.out, HDR.out], rfl⟩
          case rest =>
          obtain ⟨sg, q2, rfl, he1, hqq2, hq2s, hsg, rfl⟩ := hcut
          obtain ⟨es, hes⟩ : ∃ es : Int, es = if sg then -1 else 1 := ⟨_, rfl⟩
          rw [← hes] at he1
          subst he1
          have HES := Lib.hid hes
          have hes2 : -1 ≤ es ∧ es ≤ 1 := by rw [hes]; split <;> omega
          have hes3 := hes2.1
          have hes4 := hes2.2
          have HSG2 := Lib.hid hsg
          clear hsg hes hes2 HSG HDR hdx
          have hex2 := HEX.out
          rw [HSG2.out] at hex2
          simp only at hex2
          have HEX2 := Lib.hid hex2
          clear hex2
          by_cases hlt3 : q2 < s.size
          · have hdr2 := ns_drop s q2 hlt3
            have hd256 := ns_lt s q2 hlt3
            obtain ⟨d2, hdx2⟩ : ∃ d : Nat, (s[q2]'hlt3).toNat = d := ⟨_, rfl⟩
            rw [hdx2] at hdr2 hd256
            have HDR2 := Lib.hid hdr2
            clear hdr2
            have hd2 : decide (s.size ≤ q2) = false := decide_eq_false (by omega)
            by_cases h48 : 48 ≤ d2
            · have g1 : decide ((d2 : Int) < 48) = false := decide_eq_false (by omega)
              by_cases h57 : d2 ≤ 57
              · have g2 : decide ((57 : Int) < (d2 : Int)) = false := decide_eq_false (by omega)
                obtain ⟨W, hW⟩ : ∃ W, W = expRun 0 false ((ns s).drop q2) := ⟨_, rfl⟩
                have HW := Lib.hid hW
                clear hW
                go_wp2_with fail
                go_loop [5, 9] (fun i e => ∃ (q3 : Nat) (us1 : Bool) (ev : Nat), i = .int .i64 q3 ∧ e = .int .i64 ev ∧ q2 ≤ q3 ∧ q3 ≤ s.size ∧ ev ≤ 99999 ∧ W = expRun ev us1 ((ns s).drop q3)) (fun i e => s.size - (intOf i).toNat)
                case atStart => exact ⟨q2, false, 0, rfl, rfl, Nat.le_refl _, hq2s, by omega, HW.out⟩
                case round =>
                  obtain ⟨q3, us1, ev, rfl, rfl, hq23, hq3s, hev, hw⟩ := hrel
                  by_cases hlt4 : q3 < s.size
                  · have hdr3 := ns_drop s q3 hlt4
                    have hx256 := ns_lt s q3 hlt4
                    obtain ⟨x, hxe⟩ : ∃ x : Nat, (s[q3]'hlt4).toNat = x := ⟨_, rfl⟩
                    rw [hxe] at hdr3 hx256
                    have hw2 : W = expRun ev us1 (x :: (ns s).drop (q3 + 1)) := by rw [hw, hdr3]
                    have HW1 := Lib.hid hw
                    have HW2 := Lib.hid hw2
                    have HDR3 := Lib.hid hdr3
                    have hd4 : decide (q3 < s.size) = true := decide_eq_true hlt4
                    clear hw hw2 hdr3
                    by_cases hx95 : x = 95
                    · subst hx95
                      have HN := Lib.hid (show W = expRun ev true ((ns s).drop (q3 + 1)) by rw [HW2.out, expRun, if_pos rfl])
                      go_wp2_with fail
                      go_round
                      case rel => exact ⟨q3 + 1, true, ev, by go_num, rfl, by omega, by omega, hev, HN.out⟩
                      case measure => simp [intOf]; omega
                    · have b95 : ((x : Int) == 95) = false := beq_eq_false_iff_ne.2 (by omega)
                      by_cases hxd : 48 ≤ x ∧ x ≤ 57
                      · have f1 : decide ((48 : Int) ≤ (x : Int)) = true := decide_eq_true (by omega)
                        have f2 : decide ((x : Int) ≤ 57) = true := decide_eq_true (by omega)
                        by_cases h10 : ev < 10000
                        · have f3 : decide ((ev : Int) < 10000) = true := decide_eq_true (by omega)
                          obtain ⟨ev2, hev2⟩ : ∃ e, e = ev * 10 + (x - 48) := ⟨_, rfl⟩
                          have HN := Lib.hid (show W = expRun ev2 us1 ((ns s).drop (q3 + 1)) by rw [HW2.out, expRun, if_neg hx95, if_pos hxd, if_pos h10, hev2])
                          have e1 : (ev : Int) * 10 + (x : Int) - 48 = (ev2 : Int) := by omega
                          have hev3 : ev2 ≤ 99999 := by omega
                          clear hev2 hxd
                          go_wp2_with fail
                          go_round
                          case rel => exact ⟨q3 + 1, us1, ev2, by go_num, rfl, by omega, by omega, hev3, HN.out⟩
                          case measure => simp [intOf]; omega
                        · have f3 : decide ((ev : Int) < 10000) = false := decide_eq_false (by omega)
                          have HN := Lib.hid (show W = expRun ev us1 ((ns s).drop (q3 + 1)) by rw [HW2.out, expRun, if_neg hx95, if_pos hxd, if_neg h10])
                          clear hxd
                          go_wp2_with fail
                          go_round
                          case rel => exact ⟨q3 + 1, us1, ev, by go_num, rfl, by omega, by omega, hev, HN.out⟩
                          case measure => simp [intOf]; omega
                      · have HW3 := Lib.hid (show W = (ev, us1, (ns s).drop q3) by rw [HW2.out, expRun, if_neg hx95, if_neg hxd, ← HDR3.out])
                        have hc : x < 48 ∨ 57 < x := by omega
                        clear hxd
                        rcases hc with hc | hc
                        · have f1 : decide ((48 : Int) ≤ (x : Int)) = false := decide_eq_false (by omega)
                          obtain ⟨mm, hmm⟩ : ∃ mm : Int, mm = (ev : Int) * es := ⟨_, rfl⟩
                          have hmw : (ev : Int) * es = mm := hmm.symm
                          have hmv : mm = if sg then -(ev : Int) else (ev : Int) := by
                            rw [hmm, HES.out]; cases sg <;> simp
                          have hmb : -99999 ≤ mm ∧ mm ≤ 99999 := by rw [hmv]; split <;> omega
                          have hmb1 := hmb.1
                          have hmb2 := hmb.2
                          have HFIN := Lib.hid (show expOf false false dq ((ns s).drop k) = some (dq + mm, us1, (ns s).drop q3) by
                            rw [HEX2.out, HDR2.out, expTail, if_pos ⟨h48, h57⟩, ← HDR2.out, ← HW.out, HW3.out, hmv])
                          clear hmm hmv hmb
                          go_wp2_with fail
                          go_meet
                          exact ⟨us1, dq + mm, q3, _, rfl, hq3s, by omega, by omega, HFIN.out, HM2.out.setDp (dq + mm)⟩
                        · have f1 : decide ((48 : Int) ≤ (x : Int)) = true := decide_eq_true (by omega)
                          have f2 : decide ((x : Int) ≤ 57) = false := decide_eq_false (by omega)
                          obtain ⟨mm, hmm⟩ : ∃ mm : Int, mm = (ev : Int) * es := ⟨_, rfl⟩
                          have hmw : (ev : Int) * es = mm := hmm.symm
                          have hmv : mm = if sg then -(ev : Int) else (ev : Int) := by
                            rw [hmm, HES.out]; cases sg <;> simp
                          have hmb : -99999 ≤ mm ∧ mm ≤ 99999 := by rw [hmv]; split <;> omega
                          have hmb1 := hmb.1
                          have hmb2 := hmb.2
                          have HFIN := Lib.hid (show expOf false false dq ((ns s).drop k) = some (dq + mm, us1, (ns s).drop q3) by
                            rw [HEX2.out, HDR2.out, expTail, if_pos ⟨h48, h57⟩, ← HDR2.out, ← HW.out, HW3.out, hmv])
                          clear hmm hmv hmb
                          go_wp2_with fail
                          go_meet
                          exact ⟨us1, dq + mm, q3, _, rfl, hq3s, by omega, by omega, HFIN.out, HM2.out.setDp (dq + mm)⟩
                  · have hke : s.size ≤ q3 := by omega
                    have HW3 := Lib.hid (show W = (ev, us1, (ns s).drop q3) by rw [hw, ns_end s q3 hke]; rfl)
                    have hd4 : decide (q3 < s.size) = false := decide_eq_false hlt4
                    clear hw
                    obtain ⟨mm, hmm⟩ : ∃ mm : Int, mm = (ev : Int) * es := ⟨_, rfl⟩
                    have hmw : (ev : Int) * es = mm := hmm.symm
                    have hmv : mm = if sg then -(ev : Int) else (ev : Int) := by
                      rw [hmm, HES.out]; cases sg <;> simp
                    have hmb : -99999 ≤ mm ∧ mm ≤ 99999 := by rw [hmv]; split <;> omega
                    have hmb1 := hmb.1
                    have hmb2 := hmb.2
                    have HFIN := Lib.hid (show expOf false false dq ((ns s).drop k) = some (dq + mm, us1, (ns s).drop q3) by
                      rw [HEX2.out, HDR2.out, expTail, if_pos ⟨h48, h57⟩, ← HDR2.out, ← HW.out, HW3.out, hmv])
                    clear hmm hmv hmb
                    go_wp2_with fail
                    go_meet
                    exact ⟨us1, dq + mm, q3, _, rfl, hq3s, by omega, by omega, HFIN.out, HM2.out.setDp (dq + mm)⟩
              · have g2 : decide ((57 : Int) < (d2 : Int)) = true := decide_eq_true (by omega)
                have HN := Lib.hid (show setF (ns s) = none by rw [HSET3.out, HEX2.out, HDR2.out, expTail, if_neg (by omega)])
                go_wp2_with fail
                go_ret
                exact set_none HN.out HM2.out.upd
            · have g1 : decide ((d2 : Int) < 48) = true := decide_eq_true (by omega)
              have HN := Lib.hid (show setF (ns s) = none by rw [HSET3.out, HEX2.out, HDR2.out, expTail, if_neg (by omega)])
              go_wp2_with fail
              go_ret
              exact set_none HN.out HM2.out.upd
          · have hd2 : decide (s.size ≤ q2) = true := decide_eq_true (by omega)
            have hnil := ns_end s q2 (by omega)
            have HN := Lib.hid (show setF (ns s) = none by rw [HSET3.out, HEX2.out, hnil, expTail])
            clear hnil
            go_wp2_with fail
            go_ret
            exact set_none HN.out HM2.out.upd
        · have hd : decide (s.size ≤ q) = true := decide_eq_true (by omega)
          have hnil := ns_end s q (by omega)
          have HN := Lib.hid (show setF (ns s) = none by rw [HSET3.out, HEX.out, hnil]; rfl)
          clear hnil
          go_wp2_with fail
          go_ret
          exact set_none HN.out HM2.out.upd
    case rest =>
    obtain ⟨us', P', k', cs3, rfl, hks2, hP1, hP2, hex, hm3⟩ := hcut
    have HM3 := Lib.hid hm3
    by_cases hke : k' = s.size
    · have HS := Lib.hid (show setF (ns s) = some ⟨D, nd, P', tr⟩ by rw [HSET3.out, hex, ns_end s k' (by omega)])
      have b : ((k' : Int) != (s.size : Int)) = false := by rw [hke]; simp
      clear hex hm3 hke
      go_wp2_with fail
      go_ret
      exact set_some HS.out hP1 hP2 HM3.out
    · have HS := Lib.hid (show setF (ns s) = none by rw [HSET3.out, hex, ns_drop s k' (by omega)])
      have b : ((k' : Int) != (s.size : Int)) = true := bne_iff_ne.2 (by omega)
      clear hex hm3 hke
      go_wp2_with fail
      go_ret
      exact set_none HS.out HM3.out.upd

set_option maxHeartbeats 1000000 in
set_option maxRecDepth 100000 in
theorem set_zero (c : Nat) (s : ByteArray) (T : TypeId) (cs0 : Array Value) (w : World) (h0 : s.size = 0) (ho : w.heap[c]? = some (.cells cs0 T (0, 0))) (hr : Raw cs0) :
    Calls Tryz.prog 118 #[.pointer (some ⟨c, 0, none⟩), .string s] w (SetPost (ns s) c T w) := by
  have hemp : s = ByteArray.empty := by
    cases s with | mk d => exact congrArg ByteArray.mk (Array.eq_empty_of_size_eq_zero h0)
  subst hemp
  have HN := Lib.hid (show setF (ns ByteArray.empty) = none from rfl)
  obtain ⟨n0, hn0⟩ := hr.neg
  obtain ⟨t0, ht0⟩ := hr.tr
  have c2 := obj_cell (i := 802) ho hn0
  have c3 := obj_cell (i := 803) ho ht0
  have f2 := obj_free (i := 802) ho
  have f3 := obj_free (i := 803) ho
  clear ho hr hn0 ht0
  go_enter Tryz.func118, Tryz.ntmps118
  go_wp2_with fail
  go_ret
  exact set_none HN.out (((Upd.refl _ _).set _ _).set _ _)
end Go.Proofs.YtiebedcldbmlhaaGreatDoor.Fl
