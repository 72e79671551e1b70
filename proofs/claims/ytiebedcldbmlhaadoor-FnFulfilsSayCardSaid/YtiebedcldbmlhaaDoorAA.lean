/-
  The measure's plain numbers against what ParseFloat reads: plain laws. Conditions: bytes.
-/
import Derived.Test.YtiebedcldbmlhaaDoorZ
namespace Go.Proofs.YtiebedcldbmlhaaDoor
open Go.RowKit
open Fl (ns signOf isD ns_drop ns_len ns_end ns_lt ns_tail up low hexOf spN readF rdTail rfRun rfStep rf0 Rf Rd expOf sdRun sdStep sd0 Sd sdTail setF St A32 DecT SlowT FBits OkF NoF pfR pfB errV Lead Ok cpl inN infinity base maxd)
set_option linter.unusedVariables false

theorem bad_fin : ∀ c : Fin 256, bad c.val = false → low c.val ≠ 120 ∧ low c.val ≠ 101 ∧ c.val ≠ 95 ∧ c.val ≠ 105 ∧ c.val ≠ 73 ∧ c.val ≠ 110 ∧ c.val ≠ 78 ∧ up c.val ≠ 105 := by decide +kernel
theorem not_bad {c : Nat} (hc : c < 256) (h : bad c = false) : low c ≠ 120 ∧ low c ≠ 101 ∧ c ≠ 95 ∧ c ≠ 105 ∧ c ≠ 73 ∧ c ≠ 110 ∧ c ≠ 78 ∧ up c ≠ 105 := bad_fin ⟨c, hc⟩ h
/-- No letter that a number may have besides its digits. -/
def Clean (l : List Nat) : Prop := ∀ c ∈ l, low c ≠ 120 ∧ low c ≠ 101 ∧ c ≠ 95 ∧ c ≠ 105 ∧ c ≠ 73 ∧ c ≠ 110 ∧ c ≠ 78 ∧ up c ≠ 105
theorem clean_of {l : List Nat} (hl : ∀ c ∈ l, c < 256) (h : l.any bad = false) : Clean l := by
  intro c hc
  rw [List.any_eq_false] at h
  exact not_bad (hl c hc) (by simpa using h c hc)
theorem sign_mem {l : List Nat} {c : Nat} (h : c ∈ (signOf l).2) : c ∈ l := by
  cases l with
  | nil => exact h
  | cons d l =>
    simp only [signOf] at h
    split at h
    · exact List.mem_cons_of_mem _ h
    · split at h
      · exact List.mem_cons_of_mem _ h
      · exact h
theorem clean_sign {l : List Nat} (h : Clean l) : Clean (signOf l).2 := fun c hc => h c (sign_mem hc)
theorem hex_no {l : List Nat} (h : Clean l) : hexOf l = (false, l) := by
  unfold hexOf
  split
  · rename_i a c d r
    rw [if_neg (fun e => (h c (by simp)).1 e.2)]
  · rfl
theorem in_no {l : List Nat} (h : Clean l) : inN l = 0 := by
  have : cpl l infinity = 0 := by
    cases l with
    | nil => rfl
    | cons c r =>
      have := h c (by simp)
      unfold cpl infinity
      simp only
      rw [if_neg this.2.2.2.2.2.2.2]
  unfold inN
  rw [this]
  rfl
theorem sp_no {l : List Nat} (h : Clean l) : spN l = none := by
  unfold spN
  split
  · rfl
  · rename_i c r
    have hc := h c (by simp)
    split
    · rw [if_pos (in_no (fun d hd => h d (List.mem_cons_of_mem _ hd)))]
    · rw [if_neg (by omega), if_neg (by omega)]
theorem exp_no {l : List Nat} {us : Bool} {dp : Int} (h : Clean l) : expOf false us dp l = some (dp, us, l) := by
  unfold expOf
  split
  · rfl
  · rename_i c r
    rw [if_neg (show ¬ low c = (if false = true then 112 else 101) from (h c (by simp)).2.1)]
    rfl

/-- What holds of the numbers read so far. -/
structure RInv (r : Rf) (k : Nat) : Prop where
  man : r.man < 10 ^ r.nm
  nm : r.nm ≤ 19
  le : r.nm ≤ r.nd
  or : r.nm = r.nd ∨ r.nm = 19
  dp : r.dp ≤ r.nd
  nd : r.nd ≤ k
  us : r.us = false
theorem rf_dig {r : Rf} {c k : Nat} (hc : isD c = true) (h : RInv r k) : ∃ r1, rfStep false r c = some r1 ∧ r1.dot = r.dot ∧ r1.dig = true ∧ RInv r1 (k + 1) := by
  have hd := isD_iff.1 hc
  obtain ⟨h1, h2, h3, h4, h5, h6, h7⟩ := h
  unfold rfStep
  rw [if_neg (by omega), if_neg (by omega), if_pos hd]
  split
  · exact ⟨_, rfl, rfl, rfl, h1, h2, h3, h4, by simp; omega, by simp; omega, h7⟩
  · have hm : maxd false = 19 := rfl
    have hbs : base false = 10 := rfl
    rw [hm, hbs]
    split
    · refine ⟨_, rfl, rfl, rfl, ?_, ?_, ?_, ?_, ?_, ?_, h7⟩
      · show r.man * 10 + (c - 48) < 10 ^ (r.nm + 1)
        rw [Nat.pow_succ]
        omega
      all_goals simp; omega
    · refine ⟨_, rfl, rfl, rfl, h1, h2, ?_, ?_, ?_, ?_, h7⟩
      all_goals simp; omega
theorem rf_all : ∀ (t : List Nat) (r : Rf) (k : Nat), (∀ c ∈ t, isD c = true ∨ c = 46) → t.countP (fun c => decide (c = 46)) ≤ (if r.dot then 0 else 1) → RInv r k →
    ∃ r', rfRun false r t = (r', []) ∧ RInv r' (k + t.length) ∧ (r'.dig = true ↔ r.dig = true ∨ 0 < t.countP isD)
  | [], r, k, _, _, hi => ⟨r, rfl, hi, by simp⟩
  | c :: t, r, k, ha, hp, hi => by
    have hat : ∀ d ∈ t, isD d = true ∨ d = 46 := fun d hd => ha d (List.mem_cons_of_mem _ hd)
    rw [List.countP_cons] at hp
    rcases ha c (by simp) with hc | rfl
    · obtain ⟨r1, e1, hdot, hdig, hi1⟩ := rf_dig hc hi
      have hd := isD_iff.1 hc
      rw [decide_eq_false (show ¬ c = 46 by omega)] at hp
      obtain ⟨r', e2, hi2, hdg⟩ := rf_all t r1 (k + 1) hat (by rw [hdot]; simpa using hp) hi1
      refine ⟨r', ?_, by rw [List.length_cons]; rw [show k + (t.length + 1) = k + 1 + t.length by omega]; exact hi2, ?_⟩
      · unfold rfRun; rw [e1]; exact e2
      · rw [hdg, hdig, List.countP_cons, if_pos hc]
        simp
    · have hdot : r.dot = false := by
        cases hd : r.dot with
        | false => rfl
        | true => rw [hd] at hp; simp at hp
      rw [hdot] at hp
      have e1 : rfStep false r 46 = some { r with dot := true, dp := r.nd } := by
        unfold rfStep
        rw [if_neg (by decide), if_pos rfl, hdot]
        rfl
      obtain ⟨r', e2, hi2, hdg⟩ := rf_all t { r with dot := true, dp := r.nd } (k + 1) hat (by simp at hp ⊢; omega) ⟨hi.man, hi.nm, hi.le, hi.or, Int.le_refl _, Nat.le_succ_of_le hi.nd, hi.us⟩
      refine ⟨r', ?_, by rw [List.length_cons]; rw [show k + (t.length + 1) = k + 1 + t.length by omega]; exact hi2, ?_⟩
      · unfold rfRun; rw [e1]; exact e2
      · rw [hdg, List.countP_cons, if_neg (by decide)]
        simp

/-- What holds of the digits set so far. -/
structure SInv (r : Sd) (k : Nat) : Prop where
  dp : r.dp ≤ r.nd
  nd : r.nd ≤ k
  ld : (r.nd = 0 ∧ r.D = 0) ∨ Lead r.D r.nd
theorem sd_dig {r : Sd} {c k : Nat} (hc : isD c = true) (hk : k < 800) (h : SInv r k) : ∃ r1, sdStep r c = .go r1 ∧ r1.dot = r.dot ∧ r1.dig = true ∧ SInv r1 (k + 1) := by
  have hd := isD_iff.1 hc
  obtain ⟨h5, h6, h7⟩ := h
  unfold sdStep
  rw [if_neg (by omega), if_neg (by omega), if_pos hd]
  split
  · exact ⟨_, rfl, rfl, rfl, by simp; omega, by simp; omega, h7⟩
  · rename_i hz
    rw [if_pos (by omega)]
    refine ⟨_, rfl, rfl, rfl, by simp; omega, by simp; omega, .inr ?_⟩
    show Lead (10 * r.D + (c - 48)) (r.nd + 1)
    rcases h7 with ⟨h8, h9⟩ | hl
    · rw [h8, h9]
      exact ⟨by omega, by simp; omega, by simp; omega⟩
    · have h1 := hl.low
      have h2 := hl.up
      have h3 := hl.one
      refine ⟨by omega, ?_, ?_⟩
      · obtain ⟨m, hm⟩ : ∃ m, r.nd = m + 1 := ⟨r.nd - 1, by omega⟩
        rw [hm] at h1 ⊢
        rw [Nat.add_sub_cancel] at h1 ⊢
        rw [Nat.pow_succ]
        omega
      · rw [Nat.pow_succ]
        omega
theorem sd_all : ∀ (t : List Nat) (r : Sd) (k : Nat), (∀ c ∈ t, isD c = true ∨ c = 46) → t.countP (fun c => decide (c = 46)) ≤ (if r.dot then 0 else 1) → k + t.length ≤ 800 → SInv r k →
    ∃ r', sdRun r t = some (r', []) ∧ SInv r' (k + t.length) ∧ (r'.dig = true ↔ r.dig = true ∨ 0 < t.countP isD)
  | [], r, k, _, _, _, hi => ⟨r, rfl, hi, by simp⟩
  | c :: t, r, k, ha, hp, hk, hi => by
    have hat : ∀ d ∈ t, isD d = true ∨ d = 46 := fun d hd => ha d (List.mem_cons_of_mem _ hd)
    rw [List.countP_cons] at hp
    rw [List.length_cons] at hk
    rcases ha c (by simp) with hc | rfl
    · obtain ⟨r1, e1, hdot, hdig, hi1⟩ := sd_dig hc (by omega) hi
      have hd := isD_iff.1 hc
      rw [decide_eq_false (show ¬ c = 46 by omega)] at hp
      obtain ⟨r', e2, hi2, hdg⟩ := sd_all t r1 (k + 1) hat (by rw [hdot]; simpa using hp) (by omega) hi1
      refine ⟨r', ?_, by rw [List.length_cons]; rw [show k + (t.length + 1) = k + 1 + t.length by omega]; exact hi2, ?_⟩
      · unfold sdRun; rw [e1]; exact e2
      · rw [hdg, hdig, List.countP_cons, if_pos hc]
        simp
    · have hdot : r.dot = false := by
        cases hd : r.dot with
        | false => rfl
        | true => rw [hd] at hp; simp at hp
      rw [hdot] at hp
      have e1 : sdStep r 46 = .go { r with dot := true, dp := r.nd } := by
        unfold sdStep
        rw [if_neg (by decide), if_pos rfl, hdot]
        rfl
      obtain ⟨r', e2, hi2, hdg⟩ := sd_all t { r with dot := true, dp := r.nd } (k + 1) hat (by simp at hp ⊢; omega) (by omega) ⟨Int.le_refl _, Nat.le_succ_of_le hi.nd, hi.ld⟩
      refine ⟨r', ?_, by rw [List.length_cons]; rw [show k + (t.length + 1) = k + 1 + t.length by omega]; exact hi2, ?_⟩
      · unfold sdRun; rw [e1]; exact e2
      · rw [hdg, List.countP_cons, if_neg (by decide)]
        simp
theorem rinv0 : RInv rf0 0 := ⟨by decide, by decide, by decide, .inl rfl, by decide, by decide, rfl⟩
theorem sinv0 : SInv sd0 0 := ⟨by decide, by decide, .inl ⟨rfl, rfl⟩⟩
/-- What is plain: the signs behind the sign. -/
structure Plain (l : List Nat) : Prop where
  clean : Clean l
  len : l.length ≤ 30
  all : ∀ c ∈ (signOf l).2, isD c = true ∨ c = 46
  dig : 0 < (signOf l).2.countP isD
  pts : (signOf l).2.countP (fun c => decide (c = 46)) ≤ 1
theorem sign_count {l : List Nat} (p : Nat → Bool) (h1 : p 43 = false) (h2 : p 45 = false) : (signOf l).2.countP p = l.countP p := by
  cases l with
  | nil => rfl
  | cons c r =>
    simp only [signOf]
    split
    · rename_i h; subst h; rw [List.countP_cons, h1]; simp
    · split
      · rename_i h; subst h; rw [List.countP_cons, h2]; simp
      · rfl
theorem sign_len (l : List Nat) : (signOf l).2.length ≤ l.length := by
  cases l with
  | nil => exact Nat.le_refl _
  | cons c r =>
    simp only [signOf]
    split
    · simp
    · split <;> simp
theorem plain_of {l : List Nat} (hl : ∀ c ∈ l, c < 256) (h : plainN l = 1) : Plain l := by
  unfold plainN at h
  split at h
  · cases h
  · rename_i h1
    split at h
    · cases h
    · rename_i h2
      split at h
      · cases h
      · rename_i h3
        have h1' : l.any bad = false := by simpa using h1
        have hodd : oddL l = false := by
          cases ho : oddL l with
          | false => rfl
          | true => exact absurd (.inl ho) h3
        refine ⟨clean_of hl h1', by omega, ?_, ?_, ?_⟩
        · intro c hc
          unfold oddL at hodd
          rw [List.any_eq_false] at hodd
          have := hodd c hc
          cases hd : isD c with
          | true => exact .inl rfl
          | false =>
            rw [hd] at this
            exact .inr (by simpa using this)
        · rw [sign_count isD (by decide) (by decide)]
          have : ¬ l.countP isD = 0 := fun e => h3 (.inr (.inl e))
          omega
        · rw [sign_count _ (by decide) (by decide)]
          have : ¬ 1 < l.countP (fun c => decide (c = 46)) := fun e => h3 (.inr (.inr e))
          omega
theorem plain_ne {l : List Nat} (h : Plain l) : l ≠ [] := fun e => by
  have := h.dig
  rw [e] at this
  exact absurd this (by decide)
theorem plain_read {l : List Nat} (h : Plain l) : ∃ r : Rf, RInv r 30 ∧ readF l = some ⟨r.man, if r.man = 0 then 0 else (if r.dot then r.dp else (r.nd : Int)) - r.nm, (signOf l).1, r.tr, false, l.length⟩ := by
  obtain ⟨r, e, hi, hd⟩ := rf_all (signOf l).2 rf0 0 h.all h.pts rinv0
  have hi30 : RInv r 30 := ⟨hi.man, hi.nm, hi.le, hi.or, hi.dp, by have := hi.nd; have := sign_len l; have := h.len; omega, hi.us⟩
  refine ⟨r, hi30, ?_⟩
  unfold readF
  rw [if_neg (plain_ne h), hex_no (clean_sign h.clean)]
  simp only
  rw [e]
  unfold rdTail
  rw [if_neg (by rw [hd.2 (.inr h.dig)]; decide)]
  simp only
  rw [exp_no (l := []) (by intro c hc; cases hc), hi.us]
  simp
theorem plain_set {l : List Nat} (h : Plain l) : ∃ st : St, setF l = some st ∧ st.dp ≤ 30 ∧ (st.nd ≠ 0 → Ok st) := by
  have hl := sign_len l
  have hlen := h.len
  obtain ⟨r, e, hi, hd⟩ := sd_all (signOf l).2 sd0 0 h.all h.pts (by omega) sinv0
  have hn := hi.nd
  have hp := hi.dp
  refine ⟨⟨r.D, r.nd, if r.dot then r.dp else r.nd, r.tr⟩, ?_, ?_, fun h0 => ⟨?_, ?_⟩⟩
  · unfold setF
    rw [if_neg (plain_ne h), e]
    simp only
    unfold sdTail
    rw [if_neg (by rw [hd.2 (.inr h.dig)]; decide), exp_no (l := []) (by intro c hc; cases hc)]
  · show (if r.dot then r.dp else (r.nd : Int)) ≤ 30
    split <;> omega
  · rcases hi.ld with ⟨h1, _⟩ | h1
    · exact absurd h1 h0
    · exact h1
  · show r.nd ≤ 800
    omega
theorem errV_false : errV false = .nilIface := rfl
/-- A plain number is one, and within the range. -/
theorem plain_yes {T : Nat → Nat × Nat} {l : List Nat} {n : Nat} {er : Value} (h : Plain l) (ha : A32 T l n er) : n = l.length ∧ er = .nilIface := by
  obtain ⟨r, hi, hr⟩ := plain_read h
  have hx : (if r.dot then r.dp else (r.nd : Int)) - r.nm ≤ 11 := by
    have := hi.dp
    have := hi.or
    have := hi.nd
    split <;> omega
  obtain ⟨x, hxd⟩ : ∃ x, x = (if r.dot then r.dp else (r.nd : Int)) - r.nm := ⟨_, rfl⟩
  rw [← hxd] at hx hr
  unfold A32 at ha
  rw [sp_no h.clean, hr] at ha
  simp only at ha
  obtain ⟨h1, h2⟩ := ha
  refine ⟨h1, ?_⟩
  unfold DecT at h2
  split at h2
  · exact h2
  rename_i hm
  simp only at hm h2
  try rw [if_neg hm] at h2
  have hman : r.man < 18446744073709551616 := by
    have h3 := hi.man
    have h4 : 10 ^ r.nm ≤ 10 ^ 19 := Nat.pow_le_pow_right (by decide) hi.nm
    have h5 : 10 ^ 19 < 18446744073709551616 := by decide
    omega
  split at h2
  · omega
  · split at h2
    · exact h2
    · rename_i hlo
      have hs := Fl.pfR_small (T := T) (d := r.man) (p := x) (sgn := Fl.sgnV (signOf l).1) hman (by omega) (by omega) (by omega)
      split at h2
      · rw [h2, hs]; rfl
      · split at h2
        · rw [h2, hs]; rfl
        · rw [List.take_of_length_le (Nat.le_refl _)] at h2
          obtain ⟨st, e, hdp, hok⟩ := plain_set h
          unfold SlowT at h2
          rw [e] at h2
          simp only at h2
          split at h2
          · exact h2
          · rename_i hnd
            obtain ⟨o, ho, rfl⟩ := h2
            rw [ho.small (hok hnd) (by omega)]
            rfl
theorem plain_no {T : Nat → Nat × Nat} {l : List Nat} (h : Plain l) : ¬ NoF T l := fun ⟨⟨n, er, ha⟩, hno⟩ => by
  obtain ⟨rfl, rfl⟩ := plain_yes h ha
  exact hno ha

/-- What a run that reads all has read. -/
theorem rf_back : ∀ (t : List Nat) (r r' : Rf), (∀ c ∈ t, c ≠ 95) → rfRun false r t = (r', []) → (∀ c ∈ t, isD c = true ∨ c = 46) ∧ t.countP (fun c => decide (c = 46)) ≤ (if r.dot then 0 else 1) ∧ (r'.dig = true → r.dig = true ∨ 0 < t.countP isD)
  | [], r, r', _, h => by
    simp only [rfRun, Prod.mk.injEq, and_true] at h
    subst h
    exact ⟨(fun c hc => by cases hc), Nat.zero_le _, fun h => .inl h⟩
  | c :: t, r, r', hu, h => by
    unfold rfRun at h
    cases e : rfStep false r c with
    | none => rw [e] at h; simp at h
    | some r1 =>
      rw [e] at h
      simp only at h
      obtain ⟨h1, h2, h3⟩ := rf_back t r1 r' (fun d hd => hu d (List.mem_cons_of_mem _ hd)) h
      have hc95 := hu c (by simp)
      unfold rfStep at e
      rw [if_neg hc95] at e
      rw [List.countP_cons, List.countP_cons]
      by_cases h46 : c = 46
      · rw [if_pos h46] at e
        cases hd : r.dot with
        | true => rw [hd] at e; simp at e
        | false =>
          rw [hd] at e
          simp at e
          subst e
          simp at h2
          refine ⟨fun d hd => ?_, ?_, fun h => ?_⟩
          · rcases List.mem_cons.1 hd with rfl | hd
            · exact .inr h46
            · exact h1 d hd
          · rw [decide_eq_true h46]
            simp
            exact h2
          · rcases h3 h with h | h
            · exact .inl h
            · exact .inr (by omega)
      · rw [if_neg h46] at e
        rw [decide_eq_false h46]
        by_cases hdg : 48 ≤ c ∧ c ≤ 57
        · rw [if_pos hdg] at e
          have hdot : r1.dot = r.dot := by
            split at e
            · injection e with e; rw [← e]
            · split at e
              · injection e with e; rw [← e]
              · injection e with e; rw [← e]
          refine ⟨fun d hd => ?_, ?_, fun h => .inr ?_⟩
          · rcases List.mem_cons.1 hd with rfl | hd
            · exact .inl (isD_yes hdg)
            · exact h1 d hd
          · rw [hdot] at h2; simpa using h2
          · rw [if_pos (isD_yes hdg)]; omega
        · rw [if_neg hdg, if_neg (fun h => by cases h.1)] at e
          cases e
theorem plain_back {T : Nat → Nat × Nat} {l : List Nat} (hl : ∀ c ∈ l, c < 256) (h : plainN l = 0) : ¬ OkF T l := by
  unfold plainN at h
  split at h
  · cases h
  rename_i hb
  have hcl : Clean l := clean_of hl (by simpa using hb)
  split at h
  · cases h
  have hor : oddL l = true ∨ l.countP isD = 0 ∨ 1 < l.countP (fun c => decide (c = 46)) := by
    by_cases hp : oddL l = true ∨ l.countP isD = 0 ∨ 1 < l.countP (fun c => decide (c = 46))
    · exact hp
    · rw [if_neg hp] at h; cases h
  intro hk
  unfold OkF A32 at hk
  rw [sp_no hcl] at hk
  simp only at hk
  cases hr : readF l with
  | none => rw [hr] at hk; cases hk
  | some rd =>
    rw [hr] at hk
    simp only at hk
    obtain ⟨hn, _⟩ := hk
    unfold readF at hr
    split at hr
    · cases hr
    rename_i hne
    rw [hex_no (clean_sign hcl)] at hr
    simp only at hr
    obtain ⟨⟨r, rest⟩, hrun⟩ : ∃ x, x = rfRun false rf0 (signOf l).2 := ⟨_, rfl⟩
    rw [← hrun] at hr
    unfold rdTail at hr
    split at hr
    · cases hr
    rename_i hdig
    have hrc : Clean rest := by
      have : ∀ (t : List Nat) (r0 r1 : Rf) (u : List Nat), (r1, u) = rfRun false r0 t → ∀ c ∈ u, c ∈ t := by
        intro t
        induction t with
        | nil => intro r0 r1 u hu c hc; simp [rfRun] at hu; rw [hu.2] at hc; cases hc
        | cons d t ih =>
          intro r0 r1 u hu c hc
          unfold rfRun at hu
          split at hu
          · injection hu with _ h2; rw [h2] at hc; exact hc
          · exact List.mem_cons_of_mem _ (ih _ _ _ hu c hc)
      exact fun c hc => clean_sign hcl c (this _ _ _ _ hrun c hc)
    simp only at hr
    rw [exp_no hrc] at hr
    simp only at hr
    split at hr
    · cases hr
    injection hr with hr
    have hrn : l.length - rest.length = l.length := by
      have := congrArg Rd.n hr
      simp only at this
      omega
    have hrest : rest = [] := by
      have : 0 < l.length := by cases l with | nil => exact absurd rfl hne | cons => simp
      have : rest.length = 0 := by omega
      exact List.eq_nil_of_length_eq_zero this
    subst hrest
    obtain ⟨b1, b2, b3⟩ := rf_back (signOf l).2 rf0 r (fun c hc => (clean_sign hcl c hc).2.2.1) hrun.symm
    have hdg : 0 < (signOf l).2.countP isD := by
      rcases b3 (by simpa using hdig) with h | h
      · cases h
      · exact h
    rw [sign_count isD (by decide) (by decide)] at hdg
    rw [sign_count _ (by decide) (by decide)] at b2
    rcases hor with h1 | h1 | h1
    · unfold oddL at h1
      rw [List.any_eq_true] at h1
      obtain ⟨c, hc, hx⟩ := h1
      rcases b1 c hc with h2 | h2
      · rw [h2] at hx; simp at hx
      · rw [h2] at hx; simp at hx
    · omega
    · simp [rf0] at b2
      omega
/-- No number of the plain measure is hexadecimal. -/
theorem plain_hex {l : List Nat} (hl : ∀ c ∈ l, c < 256) (h : plainN l ≠ 2) : ∀ r, readF l = some r → r.hx = false := by
  have hb : l.any bad = false := by
    cases hb : l.any bad with
    | false => rfl
    | true => exact absurd (if_pos hb) h
  intro r hr
  unfold readF at hr
  split at hr
  · cases hr
  rw [hex_no (clean_sign (clean_of hl hb))] at hr
  unfold rdTail at hr
  split at hr
  · cases hr
  split at hr
  · cases hr
  · split at hr
    · cases hr
    · injection hr with hr
      rw [← hr]
theorem ns_small (s : ByteArray) : ∀ c ∈ ns s, c < 256 := by
  intro c hc
  unfold ns at hc
  obtain ⟨x, _, rfl⟩ := List.mem_map.1 hc
  exact x.toNat_lt
theorem plainN_cases (l : List Nat) : plainN l = 0 ∨ plainN l = 1 ∨ plainN l = 2 := by
  unfold plainN
  split
  · exact .inr (.inr rfl)
  · split
    · exact .inr (.inr rfl)
    · split
      · exact .inl rfl
      · exact .inr (.inl rfl)
end Go.Proofs.YtiebedcldbmlhaaDoor
