/-
  parseFloatPrefix and ParseFloat of the library's inner package at bitSize 32. Conditions: the tables; a text that is no hexadecimal number, within the reach.
-/
import Derived.Test.YtiebedcldbmlhaaDoorFT
namespace Go.Proofs.YtiebedcldbmlhaaDoor.Fl
open Go.RowKit
set_option linter.unusedVariables false

/-- A text is a number within the range of the floats of 32 bits. -/
def OkF (T : Nat → Nat × Nat) (l : List Nat) : Prop := A32 T l l.length .nilIface
theorem errV_ne (b : Bool) : errV b = .nilIface ↔ b = false := by
  cases b
  · exact ⟨fun _ => rfl, fun _ => rfl⟩
  · exact ⟨(fun h => by cases h), (fun h => by cases h)⟩
theorem SlowT.uniq {l : List Nat} {er er' : Value} (h : SlowT l er) (k : SlowT l er') : er = er' := by
  unfold SlowT at h k
  split at h
  · simp_all
  · split at h
    · simp_all
    · rename_i st hst hn
      rw [hst] at k
      simp only at k
      rw [if_neg hn] at k
      obtain ⟨o, h1, rfl⟩ := h
      obtain ⟨o', k1, rfl⟩ := k
      rw [h1.uniq k1]
theorem DecT.uniq {T : Nat → Nat × Nat} {l : List Nat} {r : Rd} {er er' : Value} (h : DecT T l r er) (k : DecT T l r er') : er = er' := by
  unfold DecT at h k
  split at h
  · simp_all
  rename_i c1
  rw [if_neg c1] at k
  split at h
  · simp_all
  rename_i c2
  rw [if_neg c2] at k
  split at h
  · simp_all
  rename_i c3
  rw [if_neg c3] at k
  split at h
  · simp_all
  rename_i c4
  rw [if_neg c4] at k
  split at h
  · simp_all
  rename_i c5
  rw [if_neg c5] at k
  exact h.uniq k
theorem A32.uniq {T : Nat → Nat × Nat} {l : List Nat} {n n' : Nat} {er : Value} (h : A32 T l n er) (k : A32 T l n' .nilIface) : er = .nilIface ∧ n = n' := by
  unfold A32 at h k
  split at h
  · rename_i x hx
    rw [hx] at k
    exact ⟨h.2, h.1.trans k.1.symm⟩
  · rename_i hx
    rw [hx] at k
    split at h
    · rename_i hy
      simp only at k
      rw [hy] at k
      cases k
    · rename_i r hy
      simp only at k
      rw [hy] at k
      exact ⟨h.2.uniq k.2, h.1.trans k.1.symm⟩
theorem SlowT.err {l : List Nat} {er : Value} (h : SlowT l er) : er = .nilIface ∨ er = errSyn ∨ er = errV true := by
  unfold SlowT at h
  split at h
  · exact .inr (.inl h)
  · split at h
    · exact .inl h
    · obtain ⟨o, _, rfl⟩ := h
      cases o
      · exact .inl rfl
      · exact .inr (.inr rfl)
theorem errV_err (b : Bool) : errV b = .nilIface ∨ errV b = errSyn ∨ errV b = errV true := by
  cases b
  · exact .inl rfl
  · exact .inr (.inr rfl)
theorem DecT.err {T : Nat → Nat × Nat} {l : List Nat} {r : Rd} {er : Value} (h : DecT T l r er) : er = .nilIface ∨ er = errSyn ∨ er = errV true := by
  unfold DecT at h
  repeat' split at h
  · exact .inl h
  · exact .inr (.inr h)
  · exact .inl h
  · rw [h]; exact errV_err _
  · rw [h]; exact errV_err _
  · exact h.err
theorem A32.err {T : Nat → Nat × Nat} {l : List Nat} {n : Nat} {er : Value} (h : A32 T l n er) : er = .nilIface ∨ er = errSyn ∨ er = errV true := by
  unfold A32 at h
  split at h
  · exact .inl h.2
  · split at h
    · exact .inr (.inl h)
    · exact h.2.err
/-- A text is none, and something was told of it. -/
def NoF (T : Nat → Nat × Nat) (l : List Nat) : Prop := (∃ n er, A32 T l n er) ∧ ¬ OkF T l
/-- What the inner ParseFloat hands back. -/
def PfErr (T : Nat → Nat × Nat) (l : List Nat) (er : Value) : Prop := (er = .nilIface ∧ OkF T l) ∨ (NoF T l ∧ (er = errSyn ∨ er = errV true))
theorem pf_len {T : Nat → Nat × Nat} {l : List Nat} {n : Nat} {er : Value} (h : A32 T l n er) (hn : n = l.length) : PfErr T l er := by
  subst hn
  rcases h.err with rfl | he
  · exact .inl ⟨rfl, h⟩
  · refine .inr ⟨⟨⟨_, _, h⟩, fun hk => ?_⟩, he⟩
    have h1 := (h.uniq hk).1
    subst h1
    rcases he with he | he <;> cases he
theorem pf_other {T : Nat → Nat × Nat} {l : List Nat} {n : Nat} {er : Value} (h : A32 T l n er) (hn : n ≠ l.length) : PfErr T l errSyn :=
  .inr ⟨⟨⟨_, _, h⟩, fun hk => hn (h.uniq hk).2⟩, .inl rfl⟩
def PpPost (T : Nat → Nat × Nat) (l : List Nat) (w : World) (e : Ending) (w' : World) : Prop := ∃ (fb n : Nat) (er : Value), e = .returned (.tuple #[.float .f64 fb, .int .i64 n, er]) ∧ A32 T l n er ∧ Below w.heap.size w w'
theorem conv32 (fb : Nat) (w : World) : ∃ r q, (convert 94 56 (.float .f32 fb)).run Tryd.prog w = .ok (.float .f64 r) (w.drewN q) :=
  fconv_run _ _ _ _ fb _ Tryd.underlying94 Tryd.underlying56 w
set_option maxHeartbeats 1000000 in
set_option maxRecDepth 100000 in
theorem pfpre_dec (T : Nat → Nat × Nat) (B : Nat) (s : ByteArray) (w : World) (hs : s.size ≤ 1000000000) (hE : AEnv T w B) (hnx : ∀ r, readF (ns s) = some r → r.hx = false) :
    Calls Tryd.prog 35 #[.string s, .int .i64 32] w (PpPost T (ns s) w) := by
  have HA := Lib.hid (atof32_dec T B s w hs hE hnx)
  clear hE hnx
  go_enter Tryd.func35, Tryd.ntmps35
  go_wp2_with fail
  refine HA.out.mono ?_
  rintro e w1 ⟨fb, n, er, rfl, ha, hb⟩
  have HX := Lib.hid ha
  have HB := Lib.hid hb
  obtain ⟨r, q, hr⟩ := conv32 fb w1
  clear ha hb
  go_wp2_with fail
  go_ret3
  exact ⟨r, n, er, rfl, HX.out, HB.out.trans (below_drewN _ _ _)⟩
def IpfPost (T : Nat → Nat × Nat) (l : List Nat) (w : World) (e : Ending) (w' : World) : Prop := ∃ (fb : Nat) (er : Value), e = .returned (.tuple #[.float .f64 fb, er]) ∧ PfErr T l er ∧ Below w.heap.size w w'
set_option maxHeartbeats 1000000 in
set_option maxRecDepth 100000 in
theorem ipf_dec (T : Nat → Nat × Nat) (B : Nat) (s : ByteArray) (w : World) (hs : s.size ≤ 1000000000) (hE : AEnv T w B) (hnx : ∀ r, readF (ns s) = some r → r.hx = false) :
    Calls Tryd.prog 28 #[.string s, .int .i64 32] w (IpfPost T (ns s) w) := by
  have HA := Lib.hid (pfpre_dec T B s w hs hE hnx)
  clear hE hnx
  go_enter Tryd.func28, Tryd.ntmps28
  go_wp2_with fail
  refine HA.out.mono ?_
  rintro e w1 ⟨fb, n, er, rfl, ha, hb⟩
  have HX := Lib.hid ha
  have HB := Lib.hid hb
  clear ha hb
  by_cases hn : n = s.size
  · have hnd : ((n : Int) != (s.size : Int)) = false := by rw [hn]; simp
    have HN := Lib.hid (pf_len HX.out (hn.trans (ns_len s).symm))
    clear hn
    go_wp2_with fail
    go_ret2
    exact ⟨fb, er, rfl, HN.out, HB.out⟩
  · have hnd : ((n : Int) != (s.size : Int)) = true := bne_iff_ne.2 (by omega)
    have HN := Lib.hid (pf_other HX.out (fun h => hn (h.trans (ns_len s))))
    clear hn
    go_wp2_with fail
    go_ret2
    exact ⟨0, errSyn, rfl, HN.out, HB.out⟩
end Go.Proofs.YtiebedcldbmlhaaDoor.Fl
