/-
  Plain laws on a pattern of a word with a star, a plus or an optional parameter behind it. No program in this text.
  Conditions: the words are words.
-/
import Derived.Test.YtiebedcldbmlhaaGreatDoorP
namespace Go.Proofs.YtiebedcldbmlhaaGreatDoor
set_option linter.unusedVariables false

theorem head_mid {h : Bs} (hw : WordOk h) : MidOk (47 :: (h ++ [47])) := by
  have := mid_snoc (fin_snoc (acc := []) (.inl rfl) hw)
  simpa using this

theorem star_part : ∃ nm, paramPart [42] 0 0 = some ([42], { pseg nm with greedy := true, optional := true }, 1, 0) := ⟨_, by unfold paramPart; rfl⟩
theorem plus_part : ∃ nm, paramPart [43] 0 0 = some ([43], { pseg nm with greedy := true }, 0, 1) := ⟨_, by unfold paramPart; rfl⟩

/-- One parameter behind a constant part: what the parser makes, if the parameter's part is known. -/
theorem parse_one {c t : Bs} {sg : UInt8} {x : Seg} {st pl : Nat} (hc : MidOk c) (hsg : starts.contains sg = true) (ht : nne t starts ≠ some 0) (hp : paramPart (sg :: t) 0 0 = some (sg :: t, x, st, pl))
    (hx1 : x.isParam = true) (hx2 : x.cmp = []) :
    parse (c ++ sg :: t) = some ([{ cseg c with optSlash := x.optional }, { x with last := true }], [x.name]) := by
  obtain ⟨t', ht'⟩ := mid_head hc
  obtain ⟨a, ha⟩ := hc.2.1
  have h0 : c ≠ [] := by rw [ht']; simp
  have hlast : (cseg c).const.getLast? = some 47 := by show c.getLast? = _; rw [ha]; simp
  have hgo : parseGo (c ++ sg :: t).length (c ++ sg :: t) 0 0 [] [] = some ([cseg c, x], [x.name]) := by
    obtain ⟨k, hk⟩ : ∃ k, (c ++ sg :: t).length = k + 1 + 1 := ⟨c.length + t.length - 1, by have : 0 < c.length := List.length_pos_iff.2 h0; simp; omega⟩
    rw [hk, go_const h0 hsg ht hc.1]
    conv => lhs; unfold parseGo
    have h1 := paramPos_const (c := []) sg hsg t ht (by simp)
    rw [List.nil_append] at h1
    rw [if_neg (by simp), h1]
    simp only [List.length_nil, hp, List.drop_length]
    cases k with
    | zero => rfl
    | succ k => unfold parseGo; rw [if_pos rfl]; rfl
  unfold parse
  rw [hgo]
  simp only
  rw [markLast_eq, show markL [cseg c, x] = [cseg c, { x with last := true }] from rfl, cmpBack_c rfl, cmpBack_p (x := { x with last := true }) hx1]
  have hm : metaFwd [{ x with last := true }] = some [{ x with last := true }] := by
    unfold metaFwd
    simp only [hx1, if_true, hx2]
    rfl
  have hcm : ({ x with last := true, cmp := unesc (cmpBack []).2 } : Seg) = { x with last := true } := by
    rw [show unesc (cmpBack []).2 = x.cmp by rw [hx2]; rfl]
  have hf : metaFwd [cseg c, { x with last := true }] = some [{ cseg c with optSlash := x.optional }, { x with last := true }] := by
    conv => lhs; unfold metaFwd
    simp only [show (cseg c).isParam = false from rfl, Bool.false_eq_true, if_false, hlast, hm]
    cases hxo : x.optional with
    | true => simp
    | false => simp [cseg]
  show (match metaFwd (cseg c :: [({ x with last := true, cmp := unesc (cmpBack []).2 } : Seg)]) with | none => none | some l => if 30 < [x.name].length then none else some (l, [x.name])) = _
  rw [hcm, hf]
  rfl

theorem match_one (chk : Con → Bs → Bool) {c v : Bs} {x : Seg} (hx : x.isParam = true) (hc : x.cons = []) (hl : paramLen v { x with last := true } = v.length) (hv : x.optional = true ∨ v ≠ []) :
    matchGo chk false [{ cseg c with optSlash := x.optional }, { x with last := true }] (c ++ v) [] = some [v] := by
  have h1 := mg_const (chk := chk) (part := false) (x := { cseg c with optSlash := x.optional }) (R := [{ x with last := true }]) (s := v) (vs := []) rfl rfl
  rw [show ({ cseg c with optSlash := x.optional } : Seg).const = c from rfl] at h1
  rw [h1]
  have h2 := mg_param (chk := chk) (part := false) (x := { x with last := true }) (R := []) (v := v) (s := []) (vs := []) hx hc (by rw [List.append_nil]; exact hl) hv
  rw [List.append_nil] at h2
  rw [h2, mg_nil]
  rfl
theorem match_one_none (chk : Con → Bs → Bool) {c : Bs} {x : Seg} (hx : x.isParam = true) (hl : paramLen [] { x with last := true } = 0) (ho : x.optional = false) :
    matchGo chk false [{ cseg c with optSlash := x.optional }, { x with last := true }] c [] = none := by
  have h1 := mg_const (chk := chk) (part := false) (x := { cseg c with optSlash := x.optional }) (R := [{ x with last := true }]) (s := []) (vs := []) rfl rfl
  rw [show ({ cseg c with optSlash := x.optional } : Seg).const = c from rfl, List.append_nil] at h1
  rw [h1]
  unfold matchGo
  have h2 : (!({ x with last := true } : Seg).isParam) = false := by rw [show ({ x with last := true } : Seg).isParam = x.isParam from rfl, hx]; rfl
  have h3 : (!({ x with last := true } : Seg).optional) = true := by rw [show ({ x with last := true } : Seg).optional = x.optional from rfl, ho]; rfl
  rw [if_neg (by rw [h2]; simp)]
  simp only [hl]
  rw [if_pos ⟨h3, trivial⟩]

theorem plen_greedy {v : Bs} {x : Seg} (hl : x.last = true) (hg : x.greedy = true) : paramLen v x = v.length := by unfold paramLen; simp [hl, hg]

/-- A star behind a word. -/
theorem star_law {h : Bs} (hw : WordOk h) : ∃ T nm, parse (47 :: (h ++ [47, 42])) = some (T, [nm]) ∧ (∀ x ∈ T, x.cons = []) ∧ ∀ (chk : Con → Bs → Bool) (v : Bs), matchGo chk false T (47 :: (h ++ 47 :: v)) [] = some [v] := by
  obtain ⟨nm, hnm⟩ := star_part
  have hp := parse_one (head_mid hw) (by decide) (nne_nil_ne _) hnm rfl rfl
  refine ⟨_, _, by rw [show 47 :: (h ++ [47, 42]) = 47 :: (h ++ [47]) ++ 42 :: [] by simp]; exact hp, ?_, fun chk v => ?_⟩
  · intro x hx
    simp only [List.mem_cons, List.not_mem_nil, or_false] at hx
    rcases hx with rfl | rfl <;> rfl
  · rw [show 47 :: (h ++ 47 :: v) = 47 :: (h ++ [47]) ++ v by simp]
    exact match_one chk rfl rfl (plen_greedy rfl rfl) (.inl rfl)
theorem plus_law {h : Bs} (hw : WordOk h) : ∃ T nm, parse (47 :: (h ++ [47, 43])) = some (T, [nm]) ∧ (∀ x ∈ T, x.cons = []) ∧ (∀ (chk : Con → Bs → Bool) (v : Bs), v ≠ [] → matchGo chk false T (47 :: (h ++ 47 :: v)) [] = some [v]) ∧ ∀ (chk : Con → Bs → Bool), matchGo chk false T (47 :: (h ++ [47])) [] = none := by
  obtain ⟨nm, hnm⟩ := plus_part
  have hp := parse_one (head_mid hw) (by decide) (nne_nil_ne _) hnm rfl rfl
  refine ⟨_, _, by rw [show 47 :: (h ++ [47, 43]) = 47 :: (h ++ [47]) ++ 43 :: [] by simp]; exact hp, ?_, fun chk v hv => ?_, fun chk => ?_⟩
  · intro x hx
    simp only [List.mem_cons, List.not_mem_nil, or_false] at hx
    rcases hx with rfl | rfl <;> rfl
  · rw [show 47 :: (h ++ 47 :: v) = 47 :: (h ++ [47]) ++ v by simp]
    exact match_one chk rfl rfl (plen_greedy rfl rfl) (.inr hv)
  · exact match_one_none chk rfl (plen_greedy rfl rfl) rfl

/-- A parameter with a question mark. -/
theorem part_opt {n : Bs} {st pl : Nat} (hn0 : n ≠ []) (hn : ∀ x ∈ n, wordB x = true) : paramPart (58 :: (n ++ [63])) st pl = some (58 :: (n ++ [63]), { pseg n with optional := true }, st, pl) := by
  have hc60 : (58 :: (n ++ [63])).contains 60 = false := by
    rw [List.contains_eq_any_beq, List.any_eq_false]
    intro x hx
    have : x ≠ 60 := by
      rcases List.mem_cons.1 hx with rfl | hx
      · decide
      · rcases List.mem_append.1 hx with hx | hx
        · exact wordB_ne (hn x hx) 60 (by decide)
        · obtain rfl : x = 63 := by simpa using hx
          decide
    simpa using fun h => this h.symm
  have hL : n.length ≠ 0 := by simpa using hn0
  have hpe : paramEnd (58 :: (n ++ [63])) = n.length + 1 := by
    unfold paramEnd
    rw [if_neg (by simp), hc60]
    simp only [Bool.false_and, if_false, List.drop_succ_cons, List.drop_zero, Bool.false_eq_true]
    rw [nne_app (by decide) n [] (fun x hx => ends_word (hn x hx)) (fun x hx => wordB_ne (hn x hx) 92 (by decide))]
    have hg : (58 :: (n ++ [63])).getD (n.length + 1) 0 = 63 := by
      rw [List.getD_cons_succ]
      simp [List.getD]
    show (if (n.length : Int) = -1 then (58 :: (n ++ [63])).length - 1 else if delims.contains ((58 :: (n ++ [63])).getD ((n.length : Int).toNat + 1) 0) then (n.length : Int).toNat else (n.length : Int).toNat + 1) = n.length + 1
    rw [Int.toNat_natCast, if_neg (by omega), hg, if_neg (by decide)]
  have htk : (58 :: (n ++ [63])).take (n.length + 1 + 1) = 58 :: (n ++ [63]) := List.take_of_length_le (by simp)
  have hst : nne ((58 :: (n ++ [63])).take (n.length + 1)) [60] = none := by
    refine nne_no fun x hx => ?_
    have h := List.mem_of_mem_take hx
    have : (58 :: (n ++ [63])).contains x = true := by simpa using h
    cases h6 : ([60] : Bs).contains x with
    | false => rfl
    | true =>
      have : x = 60 := by simpa using h6
      subst this
      rw [hc60] at this
      cases this
  have htr : trimmed (58 :: (n ++ [63])) = n := by
    show (if (58 : UInt8) = 58 then (if (58 :: (n ++ [63])).getLast? = some 63 then (n ++ [63]).dropLast else n ++ [63]) else 58 :: (n ++ [63])) = n
    rw [if_pos rfl, if_pos (by rw [← List.cons_append, List.getLast?_concat])]
    simp
  have hopt : (58 :: (n ++ [63]))[n.length + 1]? = some 63 := by simp
  unfold paramPart
  simp only [hpe, htk, if_pos (Nat.succ_pos n.length), hst, htr, unesc_id fun x hx => wordB_ne (hn x hx) 92 (by decide)]
  simp [pseg]
theorem opt_law {h n : Bs} (hw : WordOk h) (hn : WordOk n) : ∃ T nm, parse (47 :: (h ++ 47 :: 58 :: (n ++ [63]))) = some (T, [nm]) ∧ (∀ x ∈ T, x.cons = []) ∧ ∀ (chk : Con → Bs → Bool) (v : Bs), (∀ y ∈ v, y ≠ 47) → matchGo chk false T (47 :: (h ++ 47 :: v)) [] = some [v] := by
  have hh : nne (n ++ [63]) starts ≠ some 0 := by
    obtain ⟨hn0, hn⟩ := hn
    cases n with
    | nil => exact absurd rfl hn0
    | cons x n => exact nne_head (starts_cb (cb_word (hn x (List.mem_cons_self ..))))
  have hp := parse_one (head_mid hw) (by decide) hh (part_opt hn.1 hn.2) rfl rfl
  refine ⟨_, _, by rw [show 47 :: (h ++ 47 :: 58 :: (n ++ [63])) = 47 :: (h ++ [47]) ++ 58 :: (n ++ [63]) by simp]; exact hp, ?_, fun chk v hv => ?_⟩
  · intro x hx
    simp only [List.mem_cons, List.not_mem_nil, or_false] at hx
    rcases hx with rfl | rfl <;> rfl
  · rw [show 47 :: (h ++ 47 :: v) = 47 :: (h ++ [47]) ++ v by simp]
    exact match_one chk rfl rfl (plen_last rfl rfl hv) (.inl rfl)
end Go.Proofs.YtiebedcldbmlhaaGreatDoor
