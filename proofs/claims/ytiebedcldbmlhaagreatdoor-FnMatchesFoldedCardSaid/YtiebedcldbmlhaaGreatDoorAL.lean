/-
  RoutePatternMatch and the parser's values say the same of a pattern of words, where letters and a slash at the end count: the plain law, and the law FnMatchesValues. Conditions: the table that Itoa reads; of a size that addresses allow.
-/
import Derived.Test.YtiebedcldbmlhaaGreatDoorAK
namespace Go.Proofs.YtiebedcldbmlhaaGreatDoor
open Go.RowKit
set_option linter.unusedVariables false

/-- The same items with the pattern's own text in the values' places. -/
def reval (l : Its) : Its := l.map fun x => (x.1, x.2.1, 58 :: x.2.1)
theorem reval_first (l : Its) (fin : Bs) : firstC (reval l) fin = firstC l fin := by cases l <;> rfl
theorem reval_nil {l : Its} : reval l = [] ↔ l = [] := by simp [reval]
theorem reval_sh : ∀ (l : Its) (fin : Bs) (T : List Seg), Sh l fin T → Sh (reval l) fin T
  | [], fin, T, h => h
  | (c, n, v) :: l, fin, T, h => by
    obtain ⟨pc, la, R, rfl, hla, hR⟩ := h
    refine ⟨pc, la, R, ?_, ?_, reval_sh l fin R hR⟩
    · show _ = cseg c :: { pseg n with cmp := unesc (cmpOf (firstC (reval l) fin)), partCount := pc, last := la } :: R
      rw [reval_first]
    · show _ ↔ reval l = [] ∧ _
      rw [reval_nil]; exact hla
theorem reval_fill : ∀ (l : Its) (fin : Bs), fill (reval l) fin = render l fin
  | [], fin => rfl
  | (c, n, v) :: l, fin => by
    show c ++ ((58 :: n) ++ fill (reval l) fin) = c ++ 58 :: (n ++ render l fin)
    rw [reval_fill l fin]
    simp
theorem reval_ok {l : Its} {fin : Bs} (h : ItsOk l fin) : ItsOk (reval l) fin := by
  refine ⟨fun x hx => ?_, h.2⟩
  obtain ⟨y, hy, rfl⟩ := List.mem_map.1 hx
  obtain ⟨h1, h2, _⟩ := h.1 y hy
  refine ⟨h1, h2, by simp, fun z hz => ?_⟩
  rcases List.mem_cons.1 hz with rfl | hz
  · decide
  · exact wordB_ne (h2.2 z hz) 47 (by decide)
/-- A pattern of words matches its own text. -/
theorem match_self (l : Pts) (h : PtsOk l) (T : List Seg) (hS : Sh (normOf [] l).1 (normOf [] l).2 T) : (mres T false (patOf l)).isSome = true := by
  have hk := norm_ok l [] h (.inl rfl)
  have h1 := match_made chk0 false (reval (normOf [] l).1) (normOf [] l).2 T [] (reval_ok hk) (reval_sh _ _ _ hS)
  rw [reval_fill, norm_render, List.nil_append] at h1
  show (matchGo chk0 false T (patOf l) []).isSome = true
  rw [h1]; rfl
theorem wnames_const : ∀ (l : Pts), wnames l = [] → ∀ x ∈ l, x.2 = none
  | [], _, x, hx => by simp at hx
  | (p, none) :: l, h, x, hx => by
    rcases List.mem_cons.1 hx with rfl | hx
    · rfl
    · exact wnames_const l h x hx
  | (p, some v) :: l, h, x, hx => by simp [wnames] at h
theorem pat_unesc (l : Pts) (h : PtsOk l) : unesc (patOf l) = patOf l := by
  have hk := norm_ok l [] h (.inl rfl)
  have hr := norm_render l []
  rw [List.nil_append] at hr
  exact unesc_id fun x hx => render_ne hk 92 (by decide) (by decide) x (by rw [hr]; exact hx)
theorem strict_eq (l : Pts) (h0 : l ≠ []) (h : PtsOk l) (T : List Seg) (hS : Sh (normOf [] l).1 (normOf [] l).2 T) (q : Bs) : routeB T (wnames l) (patOf l) q = (mres T false q).isSome := by
  unfold routeB
  rw [pat_unesc l h]
  by_cases hn : wnames l = []
  · have hm : mres T false q = if q = patOf l then some [] else none := other_pts chk0 l h0 (wnames_const l hn) T q hS
    rw [hm, hn]
    by_cases hq : q = patOf l
    · subst hq; simp
    · have : ¬ patOf l = q := fun e => hq e.symm
      simp [hq, this]
  · have hl : decide (0 < (wnames l).length) = true := decide_eq_true (List.length_pos_iff.2 hn)
    rw [hl, Bool.true_and]
    cases hm : (mres T false q).isSome with
    | true => rfl
    | false =>
      rw [Bool.false_or, decide_eq_false_iff_not]
      rintro rfl
      rw [match_self l h T hS] at hm
      cases hm
theorem pat_head (l : Pts) (h0 : l ≠ []) (h : PtsOk l) : ∃ x t, patOf l = 47 :: x :: t ∧ x ≠ 42 := by
  cases l with
  | nil => exact absurd rfl h0
  | cons y l =>
    obtain ⟨p, o⟩ := y
    cases o with
    | none =>
      obtain ⟨hp0, hp⟩ := (h _ (List.mem_cons_self ..)).1
      cases p with
      | nil => exact absurd rfl hp0
      | cons x p => exact ⟨x, _, rfl, wordB_ne (hp x (List.mem_cons_self ..)) 42 (by decide)⟩
    | some v => exact ⟨58, _, rfl, by decide⟩
theorem sh_ne (l : Pts) (h0 : l ≠ []) (h : PtsOk l) (T : List Seg) (hS : Sh (normOf [] l).1 (normOf [] l).2 T) : 0 < T.length := by
  rw [List.length_pos_iff]
  rintro rfl
  have hr := norm_render l []
  cases hn : normOf [] l with
  | mk a fin =>
    rw [hn] at hS hr
    simp only at hS hr
    cases a with
    | nil =>
      rcases hS with ⟨rfl, _⟩ | ⟨_, h2⟩
      · obtain ⟨x, t, hp, _⟩ := pat_head l h0 h
        rw [hp] at hr
        cases hr
      · cases h2
    | cons y a =>
      obtain ⟨c, n, v⟩ := y
      obtain ⟨_, _, _, h2, _⟩ := hS
      cases h2
theorem path_pos : ∀ (l : Pts), l ≠ [] → 0 < (pathOf l).length
  | [], h => absurd rfl h
  | (p, none) :: l, _ => by simp [pathOf]
  | (p, some v) :: l, _ => by simp [pathOf]

theorem ptsTo_ne {ps vs : List ByteArray} {ks : List Nat} (h : PlainOk ps vs) : ptsTo ps vs ks ps.length ≠ [] := by
  intro e
  have := congrArg List.length e
  rw [pts_len] at this
  have h5 := h.some
  simp only [List.length_nil] at this
  omega
/-- Matches and Values, of a pattern of plain parts. -/
theorem both_pts (ps vs : List ByteArray) (ks : List Nat) (hp : PlainOk ps vs) : ∃ T,
    (∀ (q : ByteArray) (w : World), EnvZ w → q.size ≤ 1000000000 → 0 < q.size → Calls Tryz.prog 30 #[.string q, .string (bs (patOf (ptsTo ps vs ks ps.length))), .bool true, .bool true] w fun e w' => e = .returned (.tuple #[.bool (mres T false q.data.toList).isSome, .bool true]) ∧ Below w.heap.size w w') ∧
    (∀ (q : ByteArray) (w : World), EnvZ w → q.size ≤ 1000000000 → Calls Tryz.prog 18 #[.string (bs (patOf (ptsTo ps vs ks ps.length))), .string q, .bool false] w fun e w' => ∃ v, e = .returned (.tuple #[v, .bool (mres T false q.data.toList).isSome, .bool true]) ∧ Below w.heap.size w w') := by
  have hok := pts_ok (ks := ks) hp
  have hne := ptsTo_ne (ks := ks) hp
  have hl := pat_len (ks := ks) hp.psz hp.vsz ps.length
  have hlen := hp.few
  obtain ⟨T, hT, hS⟩ := parse_pts (ptsTo ps vs ks ps.length) hok (by rw [pts_len]; omega)
  obtain ⟨x, t, hx, hx2⟩ := pat_head _ hne hok
  have h60 : ∀ y ∈ (bs (patOf (ptsTo ps vs ks ps.length))).data.toList, y ≠ 60 := by rw [bs_data]; exact fun x hx => (pat_bytes _ hok x hx).1
  refine ⟨T, fun q w hE hq hq0 => ?_, fun q w hE hq => ?_⟩
  · have h1 := match_strict q (bs (patOf (ptsTo ps vs ks ps.length))) w hE (by rw [bs_size]; omega) hq hq0 x t (by rw [bs_data]; exact hx) hx2 h60 T _ (by rw [bs_data]; exact hT) (sh_ne _ hne hok T hS)
    rw [bs_data, strict_eq _ hne hok T hS] at h1
    exact h1
  · have h1 := values_any (bs (patOf (ptsTo ps vs ks ps.length))) q false w hE (by rw [bs_size]; omega) (by rw [bs_size]; exact pat_pos (by rw [pts_len]; exact hp.some)) hq h60 T _ (by rw [bs_data]; exact hT)
    refine h1.mono ?_
    rintro e w' ⟨v, is, rfl, hb, hm⟩
    refine ⟨v, ?_, hb⟩
    have : is = (mres T false q.data.toList).isSome := by
      cases hr : mres T false q.data.toList with
      | none => rw [hr] at hm; exact hm.1
      | some vs => rw [hr] at hm; exact hm.1
    rw [this]

/-- The first call of the law: "/a/b" and "/a/:c". -/
theorem two_c : PtsOk [([97], none), ([99], some [98])] := by
  intro x hx
  simp only [List.mem_cons, List.not_mem_nil, or_false] at hx
  rcases hx with rfl | rfl
  · exact ⟨⟨by simp, by intro y hy; simp at hy; subst hy; decide⟩, by intro v hv; cases hv⟩
  · exact ⟨⟨by simp, by intro y hy; simp at hy; subst hy; decide⟩, by intro v hv; cases hv; exact ⟨by simp, by intro y hy; simp at hy; subst hy; decide⟩⟩
theorem match_ab (w : World) (hE : EnvZ w) : Calls Tryz.prog 30 #[.string ⟨#[47, 97, 47, 98]⟩, .string ⟨#[47, 97, 47, 58, 99]⟩, .bool true, .bool true] w fun e w' => e = .returned (.tuple #[.bool true, .bool true]) ∧ Below w.heap.size w w' := by
  obtain ⟨T, hT, hS⟩ := parse_pts [([97], none), ([99], some [98])] two_c (by decide)
  have hm : mres T false [47, 97, 47, 98] = some [[98]] := made_pts chk0 false _ two_c T hS
  have h1 := match_strict ⟨#[47, 97, 47, 98]⟩ ⟨#[47, 97, 47, 58, 99]⟩ w hE (by decide) (by decide) (by decide) 97 [47, 58, 99] rfl (by decide) (by intro x hx; have h : x ∈ ([47, 97, 47, 58, 99] : Bs) := hx; simp at h; rcases h with rfl | rfl | rfl | rfl | rfl <;> decide) T _ hT (sh_ne _ (by simp) two_c T hS)
  have h2 := strict_eq _ (by simp) two_c T hS [47, 97, 47, 98]
  rw [hm] at h2
  have h3 : routeB T (wnames [([97], none), ([99], some [98])]) (⟨#[47, 97, 47, 58, 99]⟩ : ByteArray).data.toList (⟨#[47, 97, 47, 98]⟩ : ByteArray).data.toList = true := h2
  rw [h3] at h1
  exact h1
theorem begins_more (s t : ByteArray) (w : World) (hs : s.size ≤ 140737488351232) (ht : t.size ≤ 140737488351232) :
    Calls Tryz.prog 24 #[.string s, .string t] w fun e w' => (∃ x : Bool, (x = true → t.size ≤ s.size) ∧ e = .returned (.bool x)) ∧ w = w' := by
  go_enter Tryz.func24, Tryz.ntmps24
  by_cases h : t.size ≤ s.size
  · have hd : decide ((t.size : Int) ≤ (s.size : Int)) = true := decide_eq_true (by omega)
    have e3 : (t.size : Int) ≤ (s.size : Int) := by omega
    go_wp2
    go_ret
    exact ⟨⟨_, fun _ => h, rfl⟩, rfl⟩
  · go_wp2
    go_ret
    exact ⟨⟨false, (fun e => (by cases e)), rfl⟩, rfl⟩
end Go.Proofs.YtiebedcldbmlhaaGreatDoor
