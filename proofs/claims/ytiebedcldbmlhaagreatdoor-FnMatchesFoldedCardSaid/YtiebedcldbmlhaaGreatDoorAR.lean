/-
  Where neither letters' sizes nor a slash at the end count, a pattern of words answers alike for a path, for the path made small, and with a slash behind the pattern: the plain law. Conditions: the table that Itoa reads; of a size that addresses allow.
-/
import Derived.Test.YtiebedcldbmlhaaGreatDoorAQ
namespace Go.Proofs.YtiebedcldbmlhaaGreatDoor
open Go.RowKit
set_option linter.unusedVariables false

theorem all_bytes {p : UInt8 → Bool} (h : ((List.range 256).all fun n => p (UInt8.ofNat n)) = true) (c : UInt8) : p c = true := by
  rw [List.all_eq_true] at h
  have h1 := h c.toNat (List.mem_range.2 c.toNat_lt)
  rw [UInt8.ofNat_toNat] at h1
  exact h1
theorem lowB_word (c : UInt8) : wordB (lowB c) = wordB c := by
  have h := all_bytes (p := fun c => wordB (lowB c) == wordB c) (by decide +kernel) c
  exact beq_iff_eq.1 h
theorem lowB_low (c : UInt8) : lowB (lowB c) = lowB c := by
  have h := all_bytes (p := fun c => lowB (lowB c) == lowB c) (by decide +kernel) c
  exact beq_iff_eq.1 h
theorem lowL_low (l : Bs) : lowL (lowL l) = lowL l := by
  unfold lowL
  rw [List.map_map]
  exact List.map_congr_left fun c _ => lowB_low c

/-- The parts made small. -/
def lowP (l : Pts) : Pts := l.map fun x => (lowL x.1, x.2)
theorem lowP_len (l : Pts) : (lowP l).length = l.length := by simp [lowP]
theorem lowP_ok {l : Pts} (h : PtsOk l) : PtsOk (lowP l) := by
  intro x hx
  obtain ⟨y, hy, rfl⟩ := List.mem_map.1 hx
  obtain ⟨⟨h1, h2⟩, h3⟩ := h y hy
  refine ⟨⟨?_, ?_⟩, h3⟩
  · intro e
    exact h1 (List.map_eq_nil_iff.1 e)
  · intro z hz
    obtain ⟨c, hc, rfl⟩ := List.mem_map.1 hz
    rw [lowB_word]; exact h2 c hc
theorem low_pat : ∀ l : Pts, lowL (patOf l) = patOf (lowP l)
  | [] => rfl
  | (p, none) :: l => by
    show lowL (47 :: (p ++ patOf l)) = 47 :: (lowL p ++ patOf (lowP l))
    rw [← low_pat l]
    unfold lowL
    rw [List.map_cons, List.map_append]
    rfl
  | (p, some v) :: l => by
    show lowL (47 :: 58 :: (p ++ patOf l)) = 47 :: 58 :: (lowL p ++ patOf (lowP l))
    rw [← low_pat l]
    unfold lowL
    rw [List.map_cons, List.map_cons, List.map_append]
    rfl
theorem lowP_ne {l : Pts} (h : l ≠ []) : lowP l ≠ [] := by
  intro e
  exact h (List.map_eq_nil_iff.1 e)
theorem pat_last : ∀ (l : Pts), l ≠ [] → PtsOk l → ∃ a d, patOf l = a ++ [d] ∧ d ≠ 47
  | [], h, _ => absurd rfl h
  | [(p, o)], _, h => by
    obtain ⟨hp0, hp⟩ := (h _ (List.mem_cons_self ..)).1
    have hp1 : p = p.dropLast ++ [p.getLast hp0] := (List.dropLast_concat_getLast hp0).symm
    have hd := wordB_ne (hp _ (List.getLast_mem hp0)) 47 (by decide)
    cases o with
    | none => exact ⟨47 :: p.dropLast, p.getLast hp0, by show 47 :: (p ++ []) = _; rw [List.append_nil, List.cons_append, ← hp1], hd⟩
    | some v => exact ⟨47 :: 58 :: p.dropLast, p.getLast hp0, by show 47 :: 58 :: (p ++ []) = _; rw [List.append_nil, List.cons_append, List.cons_append, ← hp1], hd⟩
  | (p, o) :: y :: l, _, h => by
    obtain ⟨a, d, h1, h2⟩ := pat_last (y :: l) (by simp) fun x hx => h x (List.mem_cons_of_mem _ hx)
    cases o with
    | none => exact ⟨47 :: (p ++ a), d, by show 47 :: (p ++ patOf (y :: l)) = _; rw [h1]; simp, h2⟩
    | some v => exact ⟨47 :: 58 :: (p ++ a), d, by show 47 :: 58 :: (p ++ patOf (y :: l)) = _; rw [h1]; simp, h2⟩
theorem pat_trim {l : Pts} (h0 : l ≠ []) (h : PtsOk l) : trimRight (patOf l) 47 = patOf l := by
  obtain ⟨a, d, h1, h2⟩ := pat_last l h0 h
  rw [h1]
  exact trimRight_stop a 47 d h2

/-- What Matches answers, of a pattern of words, with or without a slash behind. -/
theorem loose_pts (l : Pts) (h0 : l ≠ []) (h : PtsOk l) (hl : l.length ≤ 30) (hz : (patOf l).length ≤ 900000) (T : List Seg) (hT : parse (patOf (lowP l)) = some (T, wnames (lowP l))) (hS : Sh (normOf [] (lowP l)).1 (normOf [] (lowP l)).2 T)
    (s q : ByteArray) (hs : s.data.toList = patOf l ∨ s.data.toList = patOf l ++ [47]) (w : World) (hE : EnvZ w) (hq : q.size ≤ 1000000000) (hq0 : 0 < q.size) :
    Calls Tryz.prog 30 #[.string q, .string s, .bool false, .bool false] w fun e w' => e = .returned (.tuple #[.bool (mres T false (lowL q.data.toList)).isSome, .bool true]) ∧ Below w.heap.size w w' := by
  obtain ⟨x0, t0, hx0, _⟩ := pat_head l h0 h
  obtain ⟨x, t, hx, hx2⟩ := pat_head (lowP l) (lowP_ne h0) (lowP_ok h)
  have hlow : trimRight (lowL s.data.toList) 47 = patOf (lowP l) := by
    rcases hs with hs | hs
    · rw [hs, low_pat, pat_trim (lowP_ne h0) (lowP_ok h)]
    · have h1 : lowL (patOf l ++ [47]) = lowL (patOf l) ++ [47] := by unfold lowL; rw [List.map_append]; rfl
      rw [hs, h1, low_pat, trimRight_last, pat_trim (lowP_ne h0) (lowP_ok h)]
  have hhd : ∃ t0, s.data.toList = 47 :: x0 :: t0 := by
    rcases hs with hs | hs
    · exact ⟨t0, by rw [hs, hx0]⟩
    · exact ⟨t0 ++ [47], by rw [hs, hx0]; rfl⟩
  obtain ⟨t1, ht1⟩ := hhd
  have hsz : s.size ≤ 1000000 := by
    rw [← size_data]
    rcases hs with hs | hs
    · rw [hs]; omega
    · rw [hs, List.length_append]; simp; omega
  have h60 : ∀ y ∈ (bs (patOf (lowP l))).data.toList, y ≠ 60 := by rw [bs_data]; exact fun x hx => (pat_bytes _ (lowP_ok h) x hx).1
  have h1 := match_loose q s (bs (lowL q.data.toList)) (bs (patOf (lowP l))) w hE hsz hq hq0 x0 t1 ht1 rfl (by rw [hlow]) x t (by rw [bs_data]; exact hx) hx2 h60 T _ (by rw [bs_data]; exact hT) (sh_ne _ (lowP_ne h0) (lowP_ok h) T hS)
  rw [bs_data, bs_data, strict_eq _ (lowP_ne h0) (lowP_ok h) T hS] at h1
  exact h1

/-- The three calls of the law, of a pattern of plain parts. -/
theorem folded_pts (ps vs : List ByteArray) (ks : List Nat) (hp : PlainOk ps vs) : ∃ B : Bs → Bool,
    ∀ (s q : ByteArray), (s.data.toList = patOf (ptsTo ps vs ks ps.length) ∨ s.data.toList = patOf (ptsTo ps vs ks ps.length) ++ [47]) → ∀ (w : World), EnvZ w → q.size ≤ 1000000000 → 0 < q.size → Calls Tryz.prog 30 #[.string q, .string s, .bool false, .bool false] w fun e w' => e = .returned (.tuple #[.bool (B (lowL q.data.toList)), .bool true]) ∧ Below w.heap.size w w' := by
  have hok := pts_ok (ks := ks) hp
  have hne := ptsTo_ne (ks := ks) hp
  have hl := pat_len (ks := ks) hp.psz hp.vsz ps.length
  have hlen := hp.few
  obtain ⟨T, hT, hS⟩ := parse_pts (lowP (ptsTo ps vs ks ps.length)) (lowP_ok hok) (by rw [lowP_len, pts_len]; omega)
  exact ⟨fun q => (mres T false q).isSome, fun s q hs w hE hq hq0 => loose_pts _ hne hok (by rw [pts_len]; omega) (by omega) T hT hS s q hs w hE hq hq0⟩

/-- The first call of the law: "/A/b" and "/a/:c/". -/
theorem match_ab_loose (w : World) (hE : EnvZ w) : Calls Tryz.prog 30 #[.string ⟨#[47, 65, 47, 98]⟩, .string ⟨#[47, 97, 47, 58, 99, 47]⟩, .bool false, .bool false] w fun e w' => e = .returned (.tuple #[.bool true, .bool true]) ∧ Below w.heap.size w w' := by
  have hlp : lowP [([97], none), ([99], some [98])] = [([97], none), ([99], some [98])] := rfl
  obtain ⟨T, hT, hS⟩ := parse_pts [([97], none), ([99], some [98])] two_c (by decide)
  have hm : mres T false [47, 97, 47, 98] = some [[98]] := made_pts chk0 false _ two_c T hS
  have h1 := loose_pts [([97], none), ([99], some [98])] (by simp) two_c (by decide) (by decide) T (by rw [hlp]; exact hT) (by rw [hlp]; exact hS) ⟨#[47, 97, 47, 58, 99, 47]⟩ ⟨#[47, 65, 47, 98]⟩ (.inr rfl) w hE (by decide) (by decide)
  have h2 : lowL (⟨#[47, 65, 47, 98]⟩ : ByteArray).data.toList = [47, 97, 47, 98] := by decide
  rw [h2, hm] at h1
  exact h1
end Go.Proofs.YtiebedcldbmlhaaGreatDoor
