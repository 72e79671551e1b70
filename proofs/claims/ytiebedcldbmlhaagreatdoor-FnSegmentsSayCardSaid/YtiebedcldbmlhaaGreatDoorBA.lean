/-
  What the reference reads in a pattern is what the parser makes of it: the plain law, no program in it. Conditions: a pattern that the reference reads.
-/
import Derived.Test.YtiebedcldbmlhaaGreatDoorP
namespace Go.Proofs.YtiebedcldbmlhaaGreatDoor
set_option linter.unusedVariables false

def nameB (c : UInt8) : Bool := (decide (97 ≤ c) && decide (c ≤ 122)) || (decide (65 ≤ c) && decide (c ≤ 90)) || (decide (48 ≤ c) && decide (c ≤ 57)) || c == 95
def constB (c : UInt8) : Bool := nameB c || c == 47 || c == 45 || c == 46
/-- A part as the reference reads it. -/
structure Pt where
  const : Bs
  name : Bs
  param : Bool
  greedy : Bool
  optional : Bool
  deriving DecidableEq
/-- What the reference reads from a place on: the counts of stars and pluses so far, and whether a parameter stands ahead. -/
def readP : Nat → Bs → Nat → Nat → Bool → Option (List Pt)
  | 0, s, _, _, _ => if s = [] then some [] else none
  | _ + 1, [], _, _, _ => some []
  | k + 1, c :: r, st, pl, prev =>
    if c = 42 then if prev then none else (readP k r (st + 1) pl true).map (⟨[], 42 :: Go.Lib.itoa (st + 1 : Nat), true, true, true⟩ :: ·)
    else if c = 43 then if prev then none else (readP k r st (pl + 1) true).map (⟨[], 43 :: Go.Lib.itoa (pl + 1 : Nat), true, true, false⟩ :: ·)
    else if c = 58 then
      if r.takeWhile nameB = [] then none
      else if prev then none
      else if (r.dropWhile nameB).head? = some 63 then (readP k ((r.dropWhile nameB).drop 1) st pl true).map (⟨[], r.takeWhile nameB, true, false, true⟩ :: ·)
      else (readP k (r.dropWhile nameB) st pl true).map (⟨[], r.takeWhile nameB, true, false, false⟩ :: ·)
    else if constB c then (readP k ((c :: r).dropWhile constB) st pl false).map (⟨(c :: r).takeWhile constB, [], false, false, false⟩ :: ·)
    else none

theorem nameB_ne {c : UInt8} (h : nameB c = true) (d : UInt8) (hd : nameB d = false) : c ≠ d := by rintro rfl; rw [h] at hd; cases hd
theorem constB_ne {c : UInt8} (h : constB c = true) (d : UInt8) (hd : constB d = false) : c ≠ d := by rintro rfl; rw [h] at hd; cases hd
theorem nameB_const {c : UInt8} (h : nameB c = true) : constB c = true := by unfold constB; rw [h]; rfl
theorem starts_const {x : UInt8} (h : constB x = true) : starts.contains x = false := by
  have h1 := constB_ne h 42 (by decide)
  have h2 := constB_ne h 43 (by decide)
  have h3 := constB_ne h 58 (by decide)
  simp [starts, h1, h2, h3]
theorem ends_name {x : UInt8} (h : nameB x = true) : ends.contains x = false := by
  have h1 := nameB_ne h 63 (by decide)
  have h2 := nameB_ne h 58 (by decide)
  have h3 := nameB_ne h 92 (by decide)
  have h4 := nameB_ne h 47 (by decide)
  have h5 := nameB_ne h 45 (by decide)
  have h6 := nameB_ne h 46 (by decide)
  simp [ends, h1, h2, h3, h4, h5, h6]
theorem constB_cases {c : UInt8} (h : constB c = true) (hn : nameB c = false) : c = 47 ∨ c = 45 ∨ c = 46 := by
  unfold constB at h
  rw [hn] at h
  simpa [or_assoc] using h
theorem mem_while {p : UInt8 → Bool} : ∀ {l : Bs}, ∀ x ∈ l.takeWhile p, p x = true
  | [], x, hx => by simp at hx
  | y :: l, x, hx => by
    rw [List.takeWhile_cons] at hx
    split at hx
    · rename_i hy
      rcases List.mem_cons.1 hx with rfl | hx
      · exact hy
      · exact mem_while x hx
    · simp at hx
theorem drop_head {p : UInt8 → Bool} : ∀ {l : Bs} {x : UInt8} {t : Bs}, l.dropWhile p = x :: t → p x = false
  | [], x, t, h => by simp at h
  | y :: l, x, t, h => by
    rw [List.dropWhile_cons] at h
    split at h
    · exact drop_head h
    · rename_i hy
      cases h
      simpa using hy
theorem while_len (p : UInt8 → Bool) (l : Bs) : (l.dropWhile p).length ≤ l.length := (List.dropWhile_suffix p).length_le
theorem while_split (p : UInt8 → Bool) (l : Bs) : l.takeWhile p ++ l.dropWhile p = l := List.takeWhile_append_dropWhile

/-- What stands first behind a parameter; what stands second. -/
theorem read_prev {k : Nat} {s : Bs} {st pl : Nat} {L : List Pt} (h : readP k s st pl true = some L) : s = [] ∨ ∃ c t, s = c :: t ∧ constB c = true := by
  cases s with
  | nil => exact .inl rfl
  | cons c r =>
    refine .inr ⟨c, r, rfl, ?_⟩
    cases k with
    | zero => simp [readP] at h
    | succ k =>
      unfold readP at h
      split at h
      · simp at h
      · split at h
        · simp at h
        · split at h
          · split at h <;> simp at h
          · split at h
            · assumption
            · cases h
theorem read_second {k : Nat} {c : UInt8} {t : Bs} {st pl : Nat} {prev : Bool} {L : List Pt} (h : readP k (c :: t) st pl prev = some L) (hc : constB c = false) : starts.contains c = true ∧ (c = 43 ∨ c = 42 ∨ c = 58) ∧ nne t starts ≠ some 0 := by
  have hn : ∀ {k : Nat} {t : Bs} {st pl : Nat} {L : List Pt}, readP k t st pl true = some L → nne t starts ≠ some 0 := fun h1 => by
    rcases read_prev h1 with rfl | ⟨c, t, rfl, hc⟩
    · exact nne_nil_ne _
    · exact nne_head (starts_const hc)
  cases k with
  | zero => simp [readP] at h
  | succ k =>
    unfold readP at h
    split at h
    · rename_i e
      subst e
      split at h
      · cases h
      · obtain ⟨R, h1, _⟩ := Option.map_eq_some_iff.1 h
        exact ⟨by decide, by simp, hn h1⟩
    · split at h
      · rename_i e
        subst e
        split at h
        · cases h
        · obtain ⟨R, h1, _⟩ := Option.map_eq_some_iff.1 h
          exact ⟨by decide, by simp, hn h1⟩
      · split at h
        · rename_i e
          subst e
          split at h
          · cases h
          · rename_i hne
            refine ⟨by decide, by simp, ?_⟩
            cases t with
            | nil => exact absurd rfl hne
            | cons x t =>
              refine nne_head (starts_const (nameB_const ?_))
              cases hx : nameB x with
              | true => rfl
              | false => rw [List.takeWhile_cons, hx] at hne; exact absurd rfl hne
        · rw [hc] at h
          simp at h

/-- What the reference reads holds no '<'. -/
theorem read_60 : ∀ {k : Nat} {s : Bs} {st pl : Nat} {prev : Bool} {L : List Pt}, readP k s st pl prev = some L → ∀ x ∈ s, x ≠ 60
  | 0, s, st, pl, prev, L, h, x, hx => by
    unfold readP at h
    split at h
    · rename_i e; subst e; simp at hx
    · cases h
  | k + 1, [], st, pl, prev, L, h, x, hx => by simp at hx
  | k + 1, c :: r, st, pl, prev, L, h, x, hx => by
    unfold readP at h
    split at h
    · rename_i e
      subst e
      split at h
      · cases h
      · obtain ⟨R, h1, _⟩ := Option.map_eq_some_iff.1 h
        rcases List.mem_cons.1 hx with rfl | hx
        · decide
        · exact read_60 h1 x hx
    · split at h
      · rename_i e
        subst e
        split at h
        · cases h
        · obtain ⟨R, h1, _⟩ := Option.map_eq_some_iff.1 h
          rcases List.mem_cons.1 hx with rfl | hx
          · decide
          · exact read_60 h1 x hx
      · split at h
        · rename_i e
          subst e
          split at h
          · cases h
          · split at h
            · cases h
            · rcases List.mem_cons.1 hx with rfl | hx
              · decide
              · rw [← while_split nameB r] at hx
                rcases List.mem_append.1 hx with hx | hx
                · exact nameB_ne (mem_while x hx) 60 (by decide)
                · split at h
                  · rename_i hq
                    obtain ⟨R, h1, _⟩ := Option.map_eq_some_iff.1 h
                    cases hd : r.dropWhile nameB with
                    | nil => rw [hd] at hx; simp at hx
                    | cons y t =>
                      rw [hd] at hx hq h1
                      obtain rfl : y = 63 := by simpa using hq
                      rcases List.mem_cons.1 hx with rfl | hx
                      · decide
                      · exact read_60 h1 x hx
                  · obtain ⟨R, h1, _⟩ := Option.map_eq_some_iff.1 h
                    exact read_60 h1 x hx
        · split at h
          · obtain ⟨R, h1, _⟩ := Option.map_eq_some_iff.1 h
            rw [← while_split constB (c :: r)] at hx
            rcases List.mem_append.1 hx with hx | hx
            · exact constB_ne (mem_while x hx) 60 (by decide)
            · exact read_60 h1 x hx
          · cases h

/-- What the law compares of a segment. -/
def coreOf (x : Seg) : Pt := ⟨x.const, x.name, x.isParam, x.greedy, x.optional⟩

theorem const_pos {c : Bs} (sg : UInt8) (hsg : starts.contains sg = true) (t : Bs) (ht : nne t starts ≠ some 0) (hc : ∀ x ∈ c, constB x = true) : paramPos (c ++ sg :: t) = some c.length := by
  unfold paramPos
  rw [nne_app hsg c t (fun x hx => starts_const (hc x hx)) (fun x hx => constB_ne (hc x hx) 92 (by decide))]
  have : (c ++ sg :: t).drop (c.length + 1) = t := by rw [show c ++ sg :: t = (c ++ [sg]) ++ t by simp, List.drop_left' (by simp)]
  simp only [this, ht, and_false, if_false]
theorem const_none {c : Bs} (hc : ∀ x ∈ c, constB x = true) : paramPos c = none := by
  unfold paramPos
  rw [nne_no fun x hx => starts_const (hc x hx)]
theorem const_some {c t : Bs} (hc : ∀ x ∈ c, constB x = true) : constPart (c ++ t) (some c.length) = (c, cseg c) := by
  have : (c ++ t).take c.length = c := by simp
  unfold constPart cseg
  simp only [this, unesc_id fun x hx => constB_ne (hc x hx) 92 (by decide)]
theorem const_fin {c : Bs} (hc : ∀ x ∈ c, constB x = true) : constPart c none = (c, cseg c) := by
  unfold constPart cseg
  simp only [unesc_id fun x hx => constB_ne (hc x hx) 92 (by decide)]
theorem step_const {k : Nat} {c t : Bs} {sg : UInt8} {st pl : Nat} {S : List Seg} {N : List Bs} (h0 : c ≠ []) (hsg : starts.contains sg = true) (ht : nne t starts ≠ some 0) (hc : ∀ x ∈ c, constB x = true) :
    parseGo (k + 1) (c ++ sg :: t) st pl S N = parseGo k (sg :: t) st pl (S ++ [cseg c]) N := by
  conv => lhs; unfold parseGo
  rw [if_neg (by simp), const_pos sg hsg t ht hc]
  have hl : c.length ≠ 0 := by simpa using h0
  obtain ⟨n, hn⟩ : ∃ n, c.length = n + 1 := ⟨c.length - 1, by omega⟩
  have h1 := const_some (t := sg :: t) hc
  rw [hn] at h1 ⊢
  simp only [h1]
  have : (c ++ sg :: t).drop c.length = sg :: t := by simp
  rw [this]
theorem step_fin {k : Nat} {c : Bs} {st pl : Nat} {S : List Seg} {N : List Bs} (h0 : c ≠ []) (hc : ∀ x ∈ c, constB x = true) :
    parseGo (k + 1) c st pl S N = some (S ++ [cseg c], N) := by
  conv => lhs; unfold parseGo
  rw [if_neg h0, const_none hc]
  simp only [const_fin hc, List.drop_length]
  cases k with
  | zero => rfl
  | succ k => unfold parseGo; rw [if_pos rfl]
theorem parse_nil (k st pl : Nat) (S : List Seg) (N : List Bs) : parseGo k [] st pl S N = some (S, N) := by
  cases k with
  | zero => rfl
  | succ k => unfold parseGo; rw [if_pos rfl]

theorem no_60 {s : Bs} (h : ∀ x ∈ s, x ≠ 60) : s.contains 60 = false := by
  rw [List.contains_eq_any_beq, List.any_eq_false]
  intro x hx
  have := h x hx
  simpa using fun h => this h.symm
theorem nne_60 {s : Bs} (h : ∀ x ∈ s, x ≠ 60) (k : Nat) : nne (s.take k) [60] = none := by
  refine nne_no fun x hx => ?_
  have := h x (List.mem_of_mem_take hx)
  simpa using this

/-- A parameter named by a name, with what stands behind it. -/
theorem part_name {n r : Bs} {st pl : Nat} (hn0 : n ≠ []) (hn : ∀ x ∈ n, nameB x = true) (hr : r = [] ∨ ∃ c t, r = c :: t ∧ (c = 47 ∨ c = 45 ∨ c = 46)) (h60 : ∀ x ∈ r, x ≠ 60) :
    paramPart (58 :: (n ++ r)) st pl = some (58 :: n, pseg n, st, pl) := by
  have hall : ∀ x ∈ 58 :: (n ++ r), x ≠ 60 := by
    intro x hx
    rcases List.mem_cons.1 hx with rfl | hx
    · decide
    · rcases List.mem_append.1 hx with hx | hx
      · exact nameB_ne (hn x hx) 60 (by decide)
      · exact h60 x hx
  have hc60 := no_60 hall
  have hL : n.length ≠ 0 := by simpa using hn0
  have hpe : paramEnd (58 :: (n ++ r)) = n.length := by
    unfold paramEnd
    rw [if_neg (by simp), hc60]
    simp only [Bool.false_and, if_false, List.drop_succ_cons, List.drop_zero, Bool.false_eq_true]
    rcases hr with rfl | ⟨c, t, rfl, hc⟩
    · rw [List.append_nil, nne_no fun x hx => ends_name (hn x hx)]
      simp [oi]
    · have hec : ends.contains c = true := by rcases hc with rfl | rfl | rfl <;> decide
      have hdc : delims.contains c = true := by rcases hc with rfl | rfl | rfl <;> decide
      rw [nne_app hec n t (fun x hx => ends_name (hn x hx)) (fun x hx => nameB_ne (hn x hx) 92 (by decide))]
      have hg : (58 :: (n ++ c :: t)).getD (n.length + 1) 0 = c := by
        rw [List.getD_cons_succ]
        simp [List.getD]
      show (if (n.length : Int) = -1 then (58 :: (n ++ c :: t)).length - 1 else if delims.contains ((58 :: (n ++ c :: t)).getD ((n.length : Int).toNat + 1) 0) then (n.length : Int).toNat else (n.length : Int).toNat + 1) = n.length
      rw [Int.toNat_natCast, if_neg (by omega), hg, if_pos hdc]
  have htk : (58 :: (n ++ r)).take (n.length + 1) = 58 :: n := by simp
  have hst := nne_60 hall n.length
  have htr : trimmed (58 :: n) = n := by
    show (if (58 : UInt8) = 58 then (if (58 :: n).getLast? = some 63 then n.dropLast else n) else 58 :: n) = n
    rw [if_pos rfl, if_neg]
    intro h
    have hm : (63 : UInt8) ∈ 58 :: n := List.mem_of_getLast? h
    rcases List.mem_cons.1 hm with h | h
    · cases h
    · exact nameB_ne (hn _ h) 63 (by decide) rfl
  have hopt : ¬ (58 :: (n ++ r))[n.length]? = some 63 := by
    intro h
    obtain ⟨m, hm⟩ : ∃ m, n.length = m + 1 := ⟨n.length - 1, by omega⟩
    rw [hm, List.getElem?_cons_succ, List.getElem?_append_left (by omega)] at h
    exact nameB_ne (hn _ (List.mem_of_getElem? h)) 63 (by decide) rfl
  unfold paramPart
  simp only [hpe, htk, if_pos (Nat.pos_of_ne_zero hL), hst, htr, unesc_id fun x hx => nameB_ne (hn x hx) 92 (by decide)]
  simp [pseg, hopt]
/-- An optional one. -/
theorem part_optn {n r : Bs} {st pl : Nat} (hn0 : n ≠ []) (hn : ∀ x ∈ n, nameB x = true) (h60 : ∀ x ∈ r, x ≠ 60) :
    paramPart (58 :: (n ++ 63 :: r)) st pl = some (58 :: (n ++ [63]), { pseg n with optional := true }, st, pl) := by
  have hall : ∀ x ∈ 58 :: (n ++ 63 :: r), x ≠ 60 := by
    intro x hx
    rcases List.mem_cons.1 hx with rfl | hx
    · decide
    · rcases List.mem_append.1 hx with hx | hx
      · exact nameB_ne (hn x hx) 60 (by decide)
      · rcases List.mem_cons.1 hx with rfl | hx
        · decide
        · exact h60 x hx
  have hc60 := no_60 hall
  have hpe : paramEnd (58 :: (n ++ 63 :: r)) = n.length + 1 := by
    unfold paramEnd
    rw [if_neg (by simp), hc60]
    simp only [Bool.false_and, if_false, List.drop_succ_cons, List.drop_zero, Bool.false_eq_true]
    rw [nne_app (by decide) n r (fun x hx => ends_name (hn x hx)) (fun x hx => nameB_ne (hn x hx) 92 (by decide))]
    have hg : (58 :: (n ++ 63 :: r)).getD (n.length + 1) 0 = 63 := by
      rw [List.getD_cons_succ]
      simp [List.getD]
    show (if (n.length : Int) = -1 then (58 :: (n ++ 63 :: r)).length - 1 else if delims.contains ((58 :: (n ++ 63 :: r)).getD ((n.length : Int).toNat + 1) 0) then (n.length : Int).toNat else (n.length : Int).toNat + 1) = n.length + 1
    rw [Int.toNat_natCast, if_neg (by omega), hg, if_neg (by decide)]
  have htk : (58 :: (n ++ 63 :: r)).take (n.length + 1 + 1) = 58 :: (n ++ [63]) := by
    rw [List.take_succ_cons, show n ++ 63 :: r = (n ++ [63]) ++ r by simp, List.take_left' (by simp)]
  have hst := nne_60 hall (n.length + 1)
  have htr : trimmed (58 :: (n ++ [63])) = n := by
    show (if (58 : UInt8) = 58 then (if (58 :: (n ++ [63])).getLast? = some 63 then (n ++ [63]).dropLast else (n ++ [63])) else 58 :: (n ++ [63])) = n
    rw [if_pos rfl, if_pos]
    · simp
    · rw [show 58 :: (n ++ [63]) = (58 :: n) ++ [63] by simp, List.getLast?_append]; rfl
  have hopt : (58 :: (n ++ 63 :: r))[n.length + 1]? = some 63 := by
    rw [List.getElem?_cons_succ]; simp
  unfold paramPart
  simp only [hpe, htk, if_pos (Nat.succ_pos n.length), hst, htr, unesc_id fun x hx => nameB_ne (hn x hx) 92 (by decide), hopt]
  simp [pseg]
theorem step_param {k : Nat} {p q : Bs} {x : Seg} {s' p' st pl : Nat} {S : List Seg} {N : List Bs} {r : Bs} (h0 : paramPos p = some 0) (hp : paramPart p st pl = some (q, x, s', p')) (hr : p.drop q.length = r) (hne : p ≠ []) :
    parseGo (k + 1) p st pl S N = parseGo k r s' p' (S ++ [x]) (N ++ [x.name]) := by
  conv => lhs; unfold parseGo
  rw [if_neg hne, h0]
  simp only [hp, hr]
theorem part_star {r : Bs} {st pl : Nat} : paramPart (42 :: r) st pl = some ([42], { pseg (42 :: Go.Lib.itoa (st + 1 : Nat)) with greedy := true, optional := true }, st + 1, pl) := by
  have hpe : paramEnd (42 :: r) = 0 := by unfold paramEnd; rw [if_pos (by simp)]
  unfold paramPart
  simp [hpe, pseg, trimmed, unesc]
theorem part_plus {r : Bs} {st pl : Nat} : paramPart (43 :: r) st pl = some ([43], { pseg (43 :: Go.Lib.itoa (pl + 1 : Nat)) with greedy := true }, st, pl + 1) := by
  have hpe : paramEnd (43 :: r) = 0 := by unfold paramEnd; rw [if_pos (by simp)]
  unfold paramPart
  simp [hpe, pseg, trimmed, unesc]

/-- The parser's loop reads what the reference reads. -/
theorem parse_read : ∀ (k : Nat) (s : Bs) (st pl : Nat) (prev : Bool) (L : List Pt) (m : Nat) (S : List Seg) (N : List Bs), readP k s st pl prev = some L → s.length ≤ m →
    ∃ T, parseGo m s st pl S N = some (S ++ T, N ++ (T.filter (·.isParam)).map (·.name)) ∧ T.map coreOf = L ∧ ∀ x ∈ T, x.isParam = false → x.const ≠ []
  | 0, s, st, pl, prev, L, m, S, N, h, hm => by
    unfold readP at h
    split at h
    · rename_i e
      subst e
      cases h
      exact ⟨[], by rw [parse_nil]; simp, rfl, by simp⟩
    · cases h
  | k + 1, [], st, pl, prev, L, m, S, N, h, hm => by
    unfold readP at h
    cases h
    exact ⟨[], by rw [parse_nil]; simp, rfl, by simp⟩
  | k + 1, c :: r, st, pl, prev, L, m, S, N, h, hm => by
    have h60 := read_60 h
    obtain ⟨m, rfl⟩ : ∃ j, m = j + 1 := ⟨m - 1, by simp at hm; omega⟩
    have hm' : r.length ≤ m := by simpa using hm
    have hh := h
    unfold readP at h
    split at h
    · rename_i e
      subst e
      have hsec := read_second hh (by decide)
      split at h
      · cases h
      · obtain ⟨R, h1, rfl⟩ := Option.map_eq_some_iff.1 h
        obtain ⟨T, hT, hc, hne⟩ := parse_read k r (st + 1) pl true R m (S ++ [{ pseg (42 :: Go.Lib.itoa (st + 1 : Nat)) with greedy := true, optional := true }]) (N ++ [42 :: Go.Lib.itoa (st + 1 : Nat)]) h1 hm'
        have hp := const_pos (c := []) 42 (by decide) r hsec.2.2 (by simp)
        rw [List.nil_append] at hp
        refine ⟨{ pseg (42 :: Go.Lib.itoa (st + 1 : Nat)) with greedy := true, optional := true } :: T, ?_, ?_, ?_⟩
        · rw [step_param hp part_star rfl (by simp)]
          show parseGo m r (st + 1) pl (S ++ [_]) (N ++ [42 :: Go.Lib.itoa (st + 1 : Nat)]) = _
          rw [hT]
          simp [pseg]
        · rw [List.map_cons, hc]; rfl
        · intro x hx hx2
          rcases List.mem_cons.1 hx with rfl | hx
          · cases hx2
          · exact hne x hx hx2
    · split at h
      · rename_i e
        subst e
        have hsec := read_second hh (by decide)
        split at h
        · cases h
        · obtain ⟨R, h1, rfl⟩ := Option.map_eq_some_iff.1 h
          obtain ⟨T, hT, hc, hne⟩ := parse_read k r st (pl + 1) true R m (S ++ [{ pseg (43 :: Go.Lib.itoa (pl + 1 : Nat)) with greedy := true }]) (N ++ [43 :: Go.Lib.itoa (pl + 1 : Nat)]) h1 hm'
          have hp := const_pos (c := []) 43 (by decide) r hsec.2.2 (by simp)
          rw [List.nil_append] at hp
          refine ⟨{ pseg (43 :: Go.Lib.itoa (pl + 1 : Nat)) with greedy := true } :: T, ?_, ?_, ?_⟩
          · rw [step_param hp part_plus rfl (by simp)]
            show parseGo m r st (pl + 1) (S ++ [_]) (N ++ [43 :: Go.Lib.itoa (pl + 1 : Nat)]) = _
            rw [hT]
            simp [pseg]
          · rw [List.map_cons, hc]; rfl
          · intro x hx hx2
            rcases List.mem_cons.1 hx with rfl | hx
            · cases hx2
            · exact hne x hx hx2
      · split at h
        · rename_i e
          subst e
          have hsec := read_second hh (by decide)
          have hp := const_pos (c := []) 58 (by decide) r hsec.2.2 (by simp)
          rw [List.nil_append] at hp
          split at h
          · cases h
          · rename_i hn0
            split at h
            · cases h
            · have hsp := while_split nameB r
              have hn := mem_while (p := nameB) (l := r)
              obtain ⟨n, hnd⟩ : ∃ n, n = r.takeWhile nameB := ⟨_, rfl⟩
              obtain ⟨d, hdd⟩ : ∃ d, d = r.dropWhile nameB := ⟨_, rfl⟩
              rw [← hnd] at hsp hn hn0 h
              rw [← hdd] at hsp h
              have hdlen : n.length + d.length = r.length := by rw [← hsp, List.length_append]
              split at h
              · rename_i hq
                obtain ⟨R, h1, rfl⟩ := Option.map_eq_some_iff.1 h
                cases d with
                | nil => simp at hq
                | cons y t =>
                  obtain rfl : y = 63 := by simpa using hq
                  have h1' : readP k t st pl true = some R := h1
                  simp only [List.length_cons] at hdlen
                  obtain ⟨T, hT, hc, hne⟩ := parse_read k t st pl true R m (S ++ [{ pseg n with optional := true }]) (N ++ [n]) h1' (by omega)
                  refine ⟨{ pseg n with optional := true } :: T, ?_, ?_, ?_⟩
                  · rw [← hsp] at hp ⊢
                    rw [step_param hp (part_optn hn0 hn (read_60 h1')) (r := t) (by rw [show (58 : UInt8) :: (n ++ 63 :: t) = (58 :: (n ++ [63])) ++ t by simp, List.drop_left' rfl]) (by simp)]
                    show parseGo m t st pl (S ++ [_]) (N ++ [n]) = _
                    rw [hT]
                    simp [pseg]
                  · rw [List.map_cons, hc]; rfl
                  · intro x hx hx2
                    rcases List.mem_cons.1 hx with rfl | hx
                    · cases hx2
                    · exact hne x hx hx2
              · obtain ⟨R, h1, rfl⟩ := Option.map_eq_some_iff.1 h
                obtain ⟨T, hT, hc, hne⟩ := parse_read k d st pl true R m (S ++ [pseg n]) (N ++ [n]) h1 (by omega)
                have hr : d = [] ∨ ∃ c t, d = c :: t ∧ (c = 47 ∨ c = 45 ∨ c = 46) := by
                  rcases read_prev h1 with rfl | ⟨c, t, rfl, hc⟩
                  · exact .inl rfl
                  · exact .inr ⟨c, t, rfl, constB_cases hc (drop_head hdd.symm)⟩
                refine ⟨pseg n :: T, ?_, ?_, ?_⟩
                · rw [← hsp] at hp ⊢
                  rw [step_param hp (part_name hn0 hn hr (read_60 h1)) (r := d) (by rw [show (58 : UInt8) :: (n ++ d) = (58 :: n) ++ d by simp, List.drop_left' rfl]) (by simp)]
                  show parseGo m d st pl (S ++ [_]) (N ++ [n]) = _
                  rw [hT]
                  simp [pseg]
                · rw [List.map_cons, hc]; rfl
                · intro x hx hx2
                  rcases List.mem_cons.1 hx with rfl | hx
                  · cases hx2
                  · exact hne x hx hx2
        · split at h
          · rename_i hcc
            obtain ⟨R, h1, rfl⟩ := Option.map_eq_some_iff.1 h
            have hsp := while_split constB (c :: r)
            have hn := mem_while (p := constB) (l := c :: r)
            have hq0 : (c :: r).takeWhile constB ≠ [] := by rw [List.takeWhile_cons, hcc]; simp
            obtain ⟨q, hqd⟩ : ∃ q, q = (c :: r).takeWhile constB := ⟨_, rfl⟩
            obtain ⟨d, hdd⟩ : ∃ d, d = (c :: r).dropWhile constB := ⟨_, rfl⟩
            rw [← hqd] at hsp hn hq0 ⊢
            rw [← hdd] at hsp h1
            have hql : 0 < q.length := List.length_pos_iff.2 hq0
            have hdlen : q.length + d.length = r.length + 1 := by rw [← List.length_append, hsp, List.length_cons]
            obtain ⟨T, hT, hc, hne⟩ := parse_read k d st pl false R m (S ++ [cseg q]) N h1 (by omega)
            refine ⟨cseg q :: T, ?_, ?_, ?_⟩
            · rw [← hsp]
              cases d with
              | nil =>
                rw [parse_nil] at hT
                rw [List.append_nil, step_fin hq0 hn, hT]
                simp [cseg]
              | cons y t =>
                have hs2 := read_second h1 (drop_head hdd.symm)
                rw [step_const hq0 hs2.1 hs2.2.2 hn, hT]
                simp [cseg]
            · rw [List.map_cons, hc]; rfl
            · intro x hx hx2
              rcases List.mem_cons.1 hx with rfl | hx
              · exact hq0
              · exact hne x hx hx2
          · cases h

/-- What follows keeps what the law compares. -/
theorem core_mark (l : List Seg) : (markLast l).map coreOf = l.map coreOf ∧ ∀ x ∈ markLast l, ∃ y ∈ l, x.isParam = y.isParam ∧ x.const = y.const ∧ x.name = y.name := by
  rcases List.eq_nil_or_concat l with rfl | ⟨l, x, rfl⟩
  · exact ⟨rfl, by simp [markLast]⟩
  · rw [List.concat_eq_append, markLast_snoc]
    refine ⟨by simp [coreOf], fun y hy => ?_⟩
    rcases List.mem_append.1 hy with hy | hy
    · exact ⟨y, List.mem_append_left _ hy, rfl, rfl, rfl⟩
    · obtain rfl : y = { x with last := true } := by simpa using hy
      exact ⟨x, by simp, rfl, rfl, rfl⟩
theorem core_back : ∀ (l : List Seg), ((cmpBack l).1).map coreOf = l.map coreOf ∧ ∀ x ∈ (cmpBack l).1, ∃ y ∈ l, x.isParam = y.isParam ∧ x.const = y.const ∧ x.name = y.name
  | [] => ⟨rfl, by simp [cmpBack]⟩
  | x :: r => by
    obtain ⟨h1, h2⟩ := core_back r
    cases hp : x.isParam with
    | true =>
      rw [cmpBack_p hp]
      refine ⟨by rw [List.map_cons, List.map_cons, h1]; rfl, fun y hy => ?_⟩
      rcases List.mem_cons.1 hy with rfl | hy
      · exact ⟨x, List.mem_cons_self .., rfl, rfl, rfl⟩
      · obtain ⟨z, hz, h3⟩ := h2 y hy
        exact ⟨z, List.mem_cons_of_mem _ hz, h3⟩
    | false =>
      rw [cmpBack_c hp]
      refine ⟨by rw [List.map_cons, List.map_cons, h1], fun y hy => ?_⟩
      rcases List.mem_cons.1 hy with rfl | hy
      · exact ⟨y, List.mem_cons_self .., rfl, rfl, rfl⟩
      · obtain ⟨z, hz, h3⟩ := h2 y hy
        exact ⟨z, List.mem_cons_of_mem _ hz, h3⟩
theorem core_meta : ∀ (l : List Seg), (∀ x ∈ l, x.isParam = false → x.const ≠ []) → ∃ T, metaFwd l = some T ∧ T.map coreOf = l.map coreOf
  | [], _ => ⟨[], rfl, rfl⟩
  | x :: r, h => by
    obtain ⟨T, hT, hc⟩ := core_meta r fun y hy => h y (List.mem_cons_of_mem _ hy)
    unfold metaFwd
    cases hp : x.isParam with
    | true =>
      simp only [if_true, hT]
      exact ⟨_, rfl, by rw [List.map_cons, List.map_cons, hc]; simp [coreOf, hp]⟩
    | false =>
      have hx := h x (List.mem_cons_self ..) hp
      cases hl : x.const.getLast? with
      | none => exact absurd (List.getLast?_eq_none_iff.1 hl) hx
      | some c =>
        simp only [Bool.false_eq_true, if_false, hT]
        refine ⟨_, rfl, ?_⟩
        rw [List.map_cons, List.map_cons, hc]
        split <;> simp [coreOf, hp]
/-- The parser reads what the reference reads. -/
theorem parse_parts (s : Bs) (L : List Pt) (h : readP s.length s 0 0 false = some L) (h30 : (L.filter (·.param)).length ≤ 30) : ∃ T N, parse s = some (T, N) ∧ T.map coreOf = L := by
  obtain ⟨T, hT, hc, hne⟩ := parse_read s.length s 0 0 false L s.length [] [] h (Nat.le_refl _)
  obtain ⟨h1, h2⟩ := core_mark T
  obtain ⟨h3, h4⟩ := core_back (markLast T)
  obtain ⟨U, hU, h5⟩ := core_meta (cmpBack (markLast T)).1 fun x hx hp => by
    obtain ⟨y, hy, e1, e2, _⟩ := h4 x hx
    obtain ⟨z, hz, e3, e4, _⟩ := h2 y hy
    rw [e2, e4]
    exact hne z hz (by rw [← e3, ← e1]; exact hp)
  refine ⟨U, (T.filter (·.isParam)).map (·.name), ?_, by rw [h5, h3, h1, hc]⟩
  unfold parse
  rw [hT]
  simp only [List.nil_append, hU]
  rw [if_neg]
  rw [List.length_map]
  have : (T.filter (·.isParam)).length = (L.filter (·.param)).length := by
    rw [← hc, List.filter_map, List.length_map]
    rfl
  omega
end Go.Proofs.YtiebedcldbmlhaaGreatDoor
