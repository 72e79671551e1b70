/-
  Joined: CheckConstraint of every kind and any data: it answers what a plain function tells; Plain laws on the match: what matches a whole path matches a part; the constant parts with the values between are the path. No program in this text.   Conditions: each law's own.
  Conditions: each law's own.
-/
import Derived.Test.YtiebedcldbmlhaaGreatDoorK27
import Derived.Test.YtiebedcldbmlhaaGreatDoorK28
import Derived.Test.YtiebedcldbmlhaaGreatDoorK29
import Derived.Test.YtiebedcldbmlhaaGreatDoorK13
import Derived.Test.YtiebedcldbmlhaaGreatDoorK24
import Derived.Test.YtiebedcldbmlhaaGreatDoorK30
import Derived.Test.YtiebedcldbmlhaaGreatDoorK25
namespace Go.Proofs.YtiebedcldbmlhaaGreatDoor
open Go.RowKit
set_option linter.unusedVariables false

/-- What the package-level variables hold that the parser and the constraints read. -/
structure EnvA (T : Nat → Nat × Nat) (w : World) : Prop where
  c : EnvC w
  z : EnvZ w
  f : ∃ B, Fl.AEnv T w B
theorem EnvA.below {T : Nat → Nat × Nat} {w w' : World} (h : EnvA T w) (hb : Below w.heap.size w w') : EnvA T w' := by
  obtain ⟨B, hf⟩ := h.f
  exact ⟨h.c.below hb, h.z.below hb, B, hf.below hb hf.size⟩
theorem EnvA.eenv {T : Nat → Nat × Nat} {w : World} (h : EnvA T w) : Fl.EEnv w :=
  ⟨h.c.e2, h.c.e3, by have := h.c.size; omega, by have := h.c.size; omega⟩

set_option maxHeartbeats 2000000 in
set_option maxRecDepth 100000 in
theorem check4 (T : Nat → Nat × Nat) (X : Bool) (bp o : Nat) (s : ByteArray) (w : World) (hE : EnvA T w) (hs : s.size ≤ 1000000000) (hX : X = true ↔ Fl.OkF T (Fl.ns s))
    (c0 : w.cell? ⟨bp, o, none⟩ = some (.int .i16 4)) :
    Calls Tryz.prog 34 #[.pointer (some ⟨bp, o, none⟩), .string s] w fun e w' => e = .returned (.bool X) ∧ Below w.heap.size w w' := by
  have hb1 := cell_lt c0
  have HE := Lib.hid hE
  have HX := Lib.hid hX
  clear hE hX
  go_enter Tryz.func34, Tryz.ntmps34
  go_wp2
  refine wp_loop_rounds 8 ?_
  iterate 8 (rw [rounds_succ]; go_wp2)
  refine wp_loop_rounds 3 ?_
  iterate 2 (rw [rounds_succ]; go_wp2)
  rw [rounds_succ]
  go_wp2_with fail
  obtain ⟨B, hf⟩ := (HE.out.below (below_two w _ _)).f
  refine (Fl.spf_any T B s _ hs hf (HE.out.below (below_two _ _ _)).eenv).mono ?_
  rintro e w1 ⟨fb, ev, rfl, herr, hb⟩
  have hB1 := (below_two w _ _).trans (hb.mono (Nat.le_trans (below_two w _ _).size (Nat.le_refl _)))
  have HB1 := Lib.hid hB1
  clear hb hB1 hf
  rcases herr with ⟨rfl, hok⟩ | ⟨hno, N, rfl⟩
  · have hx : X = true := HX.out.2 hok
    subst hx
    clear hok
    go_wp2_with fail
    go_ret
    exact ⟨rfl, HB1.out⟩
  · have hx : X = false := by
      cases X with
      | false => rfl
      | true => exact absurd (HX.out.1 rfl) hno.2
    subst hx
    have hnil := nil_ne N
    clear hno
    go_wp2_with fail
    go_ret
    exact ⟨rfl, HB1.out⟩

open Classical in
/-- What a constraint answers of a value. -/
noncomputable def chk (T : Nat → Nat × Nat) (c : Con) (v : Bs) : Bool :=
  if c.id = 2 then atoiOk v
  else if c.id = 3 then (Lib.parseBool v).isSome
  else if c.id = 4 then decide (Fl.OkF T (v.map UInt8.toNat))
  else if c.id = 5 then lettersGo (bs v) v.length 0
  else if c.id = 6 ∨ c.id = 15 then !c.data.isEmpty
  else if c.id = 8 then (match c.data with | [] => false | d :: _ => decide (atoiVal d ≤ v.length))
  else if c.id = 9 then (match c.data with | [] => false | d :: _ => decide ((v.length : Int) ≤ atoiVal d))
  else if c.id = 10 then (match c.data with | [] => false | d :: _ => decide ((v.length : Int) = atoiVal d))
  else if c.id = 11 then (match c.data with | d :: d' :: _ => decide (atoiVal d ≤ v.length) && decide ((v.length : Int) ≤ atoiVal d') | _ => false)
  else if c.id = 12 then (match c.data with | [] => false | d :: _ => decide (atoiVal d ≤ atoiVal v) && atoiOk v)
  else if c.id = 13 then (match c.data with | [] => false | d :: _ => decide (atoiVal v ≤ atoiVal d) && atoiOk v)
  else if c.id = 14 then (match c.data with | d :: d' :: _ => (decide (atoiVal d ≤ atoiVal v) && decide (atoiVal v ≤ atoiVal d')) && atoiOk v | _ => false)
  else true

/-- A row of data: none, one, two or more. -/
theorem own_data {w : World} {base : Nat} {d : Value} {l : List Bs} (h : w.ownsRow base 9 1 d l.length (svals l)) :
    (l = [] ∧ ∃ a cap, d = .slice a 0 cap) ∨ (∃ x, l = [x] ∧ ∃ g cap, d = .slice (some ⟨g, 0, none⟩) 1 cap ∧ w.cell? ⟨g, 0, none⟩ = some (.string (bs x))) ∨
    (∃ x y r, l = x :: y :: r ∧ ∃ g cap, d = .slice (some ⟨g, 0, none⟩) (r.length + 2) cap ∧ w.cell? ⟨g, 0, none⟩ = some (.string (bs x)) ∧ w.cell? ⟨g, 0 + 1, none⟩ = some (.string (bs y))) := by
  cases l with
  | nil =>
    obtain ⟨a, cap, hd⟩ := own_form h
    exact .inl ⟨rfl, a, cap, hd⟩
  | cons x l =>
    obtain ⟨g, cap, hd, _, _, hc⟩ := own_some h (by simp)
    cases l with
    | nil => exact .inr (.inl ⟨x, rfl, g, cap, hd, hc 0 _ rfl⟩)
    | cons y r => exact .inr (.inr ⟨x, y, r, rfl, g, cap, hd, hc 0 _ rfl, hc 1 _ rfl⟩)

theorem check_all (T : Nat → Nat × Nat) (c : Con) (k g base : Nat) (s : ByteArray) (w : World) (hE : EnvA T w) (hc : ConAt w base g k c) (hid1 : 1 ≤ c.id) (hid2 : c.id ≤ 15) (hd : ∀ d ∈ c.data, d.length ≤ 1000000) (hs : s.size ≤ 1000000000) :
    Calls Tryz.prog 34 #[.pointer (some ⟨k, 0, none⟩), .string s] w fun e w' => e = .returned (.bool (chk T c s.data.toList)) ∧ Below w.heap.size w w' := by
  obtain ⟨id, data⟩ := c
  obtain ⟨_, _, d, hob, hown, _⟩ := hc
  simp only at hid1 hid2 hd hob hown
  have c0 := obj_cell (i := 0) hob rfl
  have c1 : w.cell? ⟨k, 0 + 1, none⟩ = some d := obj_cell (i := 1) hob rfl
  have hsd : s.data.toList.length = s.size := size_data s
  have hbs : bs s.data.toList = s := bs_of s
  have hbz : ∀ x : Bs, x.length ≤ 1000000 → (bs x).size ≤ 140737488351232 := fun x h => by rw [bs_size]; omega
  have hdata := own_data hown
  have hE' := hE.c
  rcases (show id = 1 ∨ id = 2 ∨ id = 3 ∨ id = 4 ∨ id = 5 ∨ id = 6 ∨ id = 7 ∨ id = 8 ∨ id = 9 ∨ id = 10 ∨ id = 11 ∨ id = 12 ∨ id = 13 ∨ id = 14 ∨ id = 15 by omega) with h | h | h | h | h | h | h | h | h | h | h | h | h | h | h
  all_goals subst h
  · exact (check1 k 0 s w c0).mono fun e w' h => ⟨h.1.trans (by simp [chk]), h.2⟩
  · exact (check2 k 0 d s w hE' (by omega) c0).mono fun e w' h => ⟨h.1.trans (by simp [chk]), h.2⟩
  · exact (check3 k 0 s w hE' (by omega) c0).mono fun e w' h => ⟨h.1.trans (by simp [chk]), h.2⟩
  · exact check4 T _ k 0 s w hE hs (by simp [chk]; exact Iff.rfl) c0
  · exact (check5 k 0 s w hE' (by omega) c0).mono fun e w' h => ⟨h.1.trans (by simp [chk, hsd, hbs]), h.2⟩
  · rcases hdata with ⟨rfl, a, cap, rfl⟩ | ⟨x, rfl, g', cap, rfl, k0⟩ | ⟨x, y, r, rfl, g', cap, rfl, k0, k1⟩
    · exact (none6 k 0 cap a s w c0 c1).mono fun e w' h => ⟨h.1.trans (by simp [chk]), h.2⟩
    · exact (check6 k 0 1 cap _ s w (Nat.le_refl _) c0 c1).mono fun e w' h => ⟨h.1.trans (by simp [chk]), h.2⟩
    · exact (check6 k 0 _ cap _ s w (by omega) c0 c1).mono fun e w' h => ⟨h.1.trans (by simp [chk]), h.2⟩
  · exact (check7 k 0 s w c0).mono fun e w' h => ⟨h.1.trans (by simp [chk]), h.2⟩
  · rcases hdata with ⟨rfl, a, cap, rfl⟩ | ⟨x, rfl, g', cap, rfl, k0⟩ | ⟨x, y, r, rfl, g', cap, rfl, k0, k1⟩
    · exact (none8 k 0 cap a s w c0 c1).mono fun e w' h => ⟨h.1.trans (by simp [chk]), h.2⟩
    · exact (check8 k 0 g' 0 cap 1 s (bs x) (bs x) w hE' (by omega) (hbz x (hd x (by simp))) (hbz x (hd x (by simp))) (Nat.le_refl _) c0 c1 k0).mono fun e w' h => ⟨h.1.trans (by simp [chk, hsd]), h.2⟩
    · exact (check8 k 0 g' 0 cap _ s (bs x) (bs x) w hE' (by omega) (hbz x (hd x (by simp))) (hbz x (hd x (by simp))) (by omega) c0 c1 k0).mono fun e w' h => ⟨h.1.trans (by simp [chk, hsd]), h.2⟩
  · rcases hdata with ⟨rfl, a, cap, rfl⟩ | ⟨x, rfl, g', cap, rfl, k0⟩ | ⟨x, y, r, rfl, g', cap, rfl, k0, k1⟩
    · exact (none9 k 0 cap a s w c0 c1).mono fun e w' h => ⟨h.1.trans (by simp [chk]), h.2⟩
    · exact (check9 k 0 g' 0 cap 1 s (bs x) (bs x) w hE' (by omega) (hbz x (hd x (by simp))) (hbz x (hd x (by simp))) (Nat.le_refl _) c0 c1 k0).mono fun e w' h => ⟨h.1.trans (by simp [chk, hsd]), h.2⟩
    · exact (check9 k 0 g' 0 cap _ s (bs x) (bs x) w hE' (by omega) (hbz x (hd x (by simp))) (hbz x (hd x (by simp))) (by omega) c0 c1 k0).mono fun e w' h => ⟨h.1.trans (by simp [chk, hsd]), h.2⟩
  · rcases hdata with ⟨rfl, a, cap, rfl⟩ | ⟨x, rfl, g', cap, rfl, k0⟩ | ⟨x, y, r, rfl, g', cap, rfl, k0, k1⟩
    · exact (none10 k 0 cap a s w c0 c1).mono fun e w' h => ⟨h.1.trans (by simp [chk]), h.2⟩
    · exact (check10 k 0 g' 0 cap 1 s (bs x) (bs x) w hE' (by omega) (hbz x (hd x (by simp))) (hbz x (hd x (by simp))) (Nat.le_refl _) c0 c1 k0).mono fun e w' h => ⟨h.1.trans (by simp [chk, hsd]), h.2⟩
    · exact (check10 k 0 g' 0 cap _ s (bs x) (bs x) w hE' (by omega) (hbz x (hd x (by simp))) (hbz x (hd x (by simp))) (by omega) c0 c1 k0).mono fun e w' h => ⟨h.1.trans (by simp [chk, hsd]), h.2⟩
  · rcases hdata with ⟨rfl, a, cap, rfl⟩ | ⟨x, rfl, g', cap, rfl, k0⟩ | ⟨x, y, r, rfl, g', cap, rfl, k0, k1⟩
    · exact (none11 k 0 0 cap a s w (by omega) c0 c1).mono fun e w' h => ⟨h.1.trans (by simp [chk]), h.2⟩
    · exact (none11 k 0 1 cap _ s w (by omega) c0 c1).mono fun e w' h => ⟨h.1.trans (by simp [chk]), h.2⟩
    · exact (check11 k 0 g' 0 cap _ s (bs x) (bs y) w hE' (by omega) (hbz x (hd x (by simp))) (hbz y (hd y (by simp))) (by omega) c0 c1 k0 k1).mono fun e w' h => ⟨h.1.trans (by simp [chk, hsd]), h.2⟩
  · rcases hdata with ⟨rfl, a, cap, rfl⟩ | ⟨x, rfl, g', cap, rfl, k0⟩ | ⟨x, y, r, rfl, g', cap, rfl, k0, k1⟩
    · exact (none12 k 0 cap a s w c0 c1).mono fun e w' h => ⟨h.1.trans (by simp [chk]), h.2⟩
    · exact (check12 k 0 g' 0 cap 1 s (bs x) (bs x) w hE' (by omega) (hbz x (hd x (by simp))) (hbz x (hd x (by simp))) (Nat.le_refl _) c0 c1 k0).mono fun e w' h => ⟨h.1.trans (by simp [chk]), h.2⟩
    · exact (check12 k 0 g' 0 cap _ s (bs x) (bs x) w hE' (by omega) (hbz x (hd x (by simp))) (hbz x (hd x (by simp))) (by omega) c0 c1 k0).mono fun e w' h => ⟨h.1.trans (by simp [chk]), h.2⟩
  · rcases hdata with ⟨rfl, a, cap, rfl⟩ | ⟨x, rfl, g', cap, rfl, k0⟩ | ⟨x, y, r, rfl, g', cap, rfl, k0, k1⟩
    · exact (none13 k 0 cap a s w c0 c1).mono fun e w' h => ⟨h.1.trans (by simp [chk]), h.2⟩
    · exact (check13 k 0 g' 0 cap 1 s (bs x) (bs x) w hE' (by omega) (hbz x (hd x (by simp))) (hbz x (hd x (by simp))) (Nat.le_refl _) c0 c1 k0).mono fun e w' h => ⟨h.1.trans (by simp [chk]), h.2⟩
    · exact (check13 k 0 g' 0 cap _ s (bs x) (bs x) w hE' (by omega) (hbz x (hd x (by simp))) (hbz x (hd x (by simp))) (by omega) c0 c1 k0).mono fun e w' h => ⟨h.1.trans (by simp [chk]), h.2⟩
  · rcases hdata with ⟨rfl, a, cap, rfl⟩ | ⟨x, rfl, g', cap, rfl, k0⟩ | ⟨x, y, r, rfl, g', cap, rfl, k0, k1⟩
    · exact (none14 k 0 0 cap a s w (by omega) c0 c1).mono fun e w' h => ⟨h.1.trans (by simp [chk]), h.2⟩
    · exact (none14 k 0 1 cap _ s w (by omega) c0 c1).mono fun e w' h => ⟨h.1.trans (by simp [chk]), h.2⟩
    · exact (check14 k 0 g' 0 cap _ s (bs x) (bs y) w hE' (by omega) (hbz x (hd x (by simp))) (hbz y (hd y (by simp))) (by omega) c0 c1 k0 k1).mono fun e w' h => ⟨h.1.trans (by simp [chk]), h.2⟩
  · rcases hdata with ⟨rfl, a, cap, rfl⟩ | ⟨x, rfl, g', cap, rfl, k0⟩ | ⟨x, y, r, rfl, g', cap, rfl, k0, k1⟩
    · exact (none15 k 0 cap a s w c0 c1).mono fun e w' h => ⟨h.1.trans (by simp [chk]), h.2⟩
    · exact (check15 k 0 1 cap _ s w (Nat.le_refl _) c0 c1).mono fun e w' h => ⟨h.1.trans (by simp [chk]), h.2⟩
    · exact (check15 k 0 _ cap _ s w (by omega) c0 c1).mono fun e w' h => ⟨h.1.trans (by simp [chk]), h.2⟩
end Go.Proofs.YtiebedcldbmlhaaGreatDoor
namespace Go.Proofs.YtiebedcldbmlhaaGreatDoor
open Go.RowKit
set_option linter.unusedVariables false

/-- One step of the match, as an equation. -/
theorem mj_const {chk : Con → Bs → Bool} {part : Bool} {x : Seg} {R : List Seg} {s : Bs} {vs : List Bs} (hp : x.isParam = false) :
    matchGo chk part (x :: R) s vs = if x.optSlash = true ∧ (s.length : Int) = x.length - 1 ∧ s = x.const.take (x.length - 1).toNat then matchGo chk part R (s.drop (x.length - 1).toNat) vs
      else if x.length ≤ s.length ∧ s.take x.length.toNat = x.const then matchGo chk part R (s.drop x.length.toNat) vs else none := by
  conv => lhs; unfold matchGo
  simp only [hp, Bool.not_false, if_true]
theorem mj_param {chk : Con → Bs → Bool} {part : Bool} {x : Seg} {R : List Seg} {s : Bs} {vs : List Bs} (hp : x.isParam = true) :
    matchGo chk part (x :: R) s vs = if (!x.optional) = true ∧ paramLen s x = 0 then none
      else if (!(x.optional && decide (paramLen s x = 0)) = true) ∧ (x.cons.any fun c => !chk c (s.take (paramLen s x))) = true then none
      else matchGo chk part R (s.drop (paramLen s x)) (vs ++ [s.take (paramLen s x)]) := by
  conv => lhs; unfold matchGo
  simp only [hp, Bool.not_true, Bool.false_eq_true, if_false]
  congr 1
  have : ((!(decide (x.optional = true ∧ paramLen s x = 0))) = true ∧ (x.cons.any fun c => !chk c (s.take (paramLen s x))) = true) ↔ ((!(x.optional && decide (paramLen s x = 0)) = true) ∧ (x.cons.any fun c => !chk c (s.take (paramLen s x))) = true) := by
    cases x.optional <;> simp
  by_cases h : (!(x.optional && decide (paramLen s x = 0)) = true) ∧ (x.cons.any fun c => !chk c (s.take (paramLen s x))) = true
  · rw [if_pos h, if_pos (this.2 h)]
  · rw [if_neg h, if_neg (fun h' => h (this.1 h'))]
theorem mj_nil {chk : Con → Bs → Bool} {part : Bool} {s : Bs} {vs : List Bs} : matchGo chk part [] s vs = if s ≠ [] ∧ part = false then none else some vs := by unfold matchGo; rfl

theorem match_part (chk : Con → Bs → Bool) : ∀ (M : List Seg) (s : Bs) (vs r : List Bs), matchGo chk false M s vs = some r → matchGo chk true M s vs = some r
  | [], s, vs, r, h => by
    rw [mj_nil] at h ⊢
    split at h
    · cases h
    · rw [if_neg (by simp)]; exact h
  | x :: M, s, vs, r, h => by
    cases hp : x.isParam with
    | false =>
      rw [mj_const hp] at h ⊢
      split at h
      · rename_i h1; rw [if_pos h1]; exact match_part chk M _ _ _ h
      · rename_i h1
        rw [if_neg h1]
        split at h
        · rename_i h2; rw [if_pos h2]; exact match_part chk M _ _ _ h
        · cases h
    | true =>
      rw [mj_param hp] at h ⊢
      split at h
      · cases h
      · rename_i h1
        rw [if_neg h1]
        split at h
        · cases h
        · rename_i h2; rw [if_neg h2]; exact match_part chk M _ _ _ h

/-- The constant parts with the values in the parameters' places. -/
def joinP : List Seg → List Bs → Bs
  | [], _ => []
  | x :: R, vs => if x.isParam then (match vs with | [] => [] | v :: r => v ++ joinP R r) else x.const ++ joinP R vs
/-- What a parsed pattern's segments are held to, for this law. -/
def Fine : List Seg → Prop
  | [] => True
  | x :: R => (x.isParam = false → x.length = x.const.length ∧ x.optional = false ∧ (x.optSlash = true → x.const.getLast? = some 47 ∧ (R = [] ∨ (R.head?.map (·.optional)) = some true))) ∧ Fine R
theorem match_join (chk : Con → Bs → Bool) : ∀ (M : List Seg) (s : Bs) (vs r : List Bs), Fine M → matchGo chk false M s vs = some r → ∃ us, r = vs ++ us ∧ us.length = (M.filter (·.isParam)).length ∧ ((∀ u ∈ us, u ≠ []) → joinP M us = s ∨ joinP M us = s ++ [47])
  | [], s, vs, r, hf, h => by
    rw [mj_nil] at h
    split at h
    · cases h
    · rename_i h1
      cases h
      refine ⟨[], by simp, by simp, fun _ => .inl ?_⟩
      cases s with
      | nil => rfl
      | cons a l => exact absurd ⟨by simp, rfl⟩ h1
  | x :: R, s, vs, r, hf, h => by
    cases hp : x.isParam with
    | false =>
      obtain ⟨hl, ho, hos⟩ := hf.1 hp
      rw [mj_const hp] at h
      have hfil : ((x :: R).filter (·.isParam)).length = (R.filter (·.isParam)).length := by rw [List.filter_cons_of_neg (by simp [hp])]
      have hj : ∀ us, joinP (x :: R) us = x.const ++ joinP R us := fun us => by
        conv => lhs; unfold joinP
        rw [if_neg (by rw [hp]; simp)]
      split at h
      · rename_i h1
        obtain ⟨h1a, h1b, h1c⟩ := h1
        obtain ⟨hg, hR⟩ := hos h1a
        obtain ⟨us, e1, e2, e3⟩ := match_join chk R _ _ _ hf.2 h
        refine ⟨us, e1, by rw [e2, hfil], fun hu => ?_⟩
        have hdrop : s.drop (x.length - 1).toNat = [] := List.drop_of_length_le (by omega)
        rw [hdrop] at h e3
        rcases hR with rfl | hR
        · right
          have : us = [] := List.length_eq_zero_iff.1 (by rw [e2]; simp)
          subst this
          rw [hj]
          have hne : x.const ≠ [] := by rintro e; rw [e] at hg; cases hg
          have hlast : x.const.getLast hne = 47 := by rw [List.getLast?_eq_some_getLast hne] at hg; exact Option.some.inj hg
          have hdl : s = x.const.dropLast := by rw [h1c, List.dropLast_eq_take]; congr 1; omega
          rw [hdl, show (joinP [] [] : Bs) = [] from rfl, List.append_nil, ← hlast, List.dropLast_concat_getLast]
        · exfalso
          cases R with
          | nil => simp at hR
          | cons y R' =>
            have hyo : y.optional = true := by simpa using hR
            have hyp : y.isParam = true := by
              cases hy : y.isParam with
              | true => rfl
              | false => have := (hf.2.1 hy).2.1; rw [hyo] at this; cases this
            rw [mj_param hyp] at h
            split at h
            · cases h
            · split at h
              · cases h
              · obtain ⟨us2, f1, f2, f3⟩ := match_join chk R' _ _ _ hf.2.2 h
                rw [e1, List.append_assoc] at f1
                have h9 := List.append_cancel_left f1
                have h8 : ([] : Bs).take (paramLen [] y) = [] := by simp
                rw [h8] at h9
                exact hu [] (by rw [h9]; simp) rfl
      · rename_i h1
        split at h
        · rename_i h2
          obtain ⟨us, e1, e2, e3⟩ := match_join chk R _ _ _ hf.2 h
          refine ⟨us, e1, by rw [e2, hfil], fun hu => ?_⟩
          have hsp : s = x.const ++ s.drop x.length.toNat := by
            conv => lhs; rw [← List.take_append_drop x.length.toNat s]
            rw [h2.2]
          rw [hj]
          rcases e3 hu with e | e
          · left; rw [e]; exact hsp.symm
          · right; rw [e, ← List.append_assoc, ← hsp]
        · cases h
    | true =>
      rw [mj_param hp] at h
      split at h
      · cases h
      · split at h
        · cases h
        · obtain ⟨us, e1, e2, e3⟩ := match_join chk R _ _ _ hf.2 h
          refine ⟨s.take (paramLen s x) :: us, by rw [e1]; simp, by rw [List.filter_cons_of_pos (by simp [hp])]; simp [e2], fun hu => ?_⟩
          have hj : joinP (x :: R) (s.take (paramLen s x) :: us) = s.take (paramLen s x) ++ joinP R us := by
            conv => lhs; unfold joinP
            rw [if_pos (by rw [hp])]
          rw [hj]
          rcases e3 (fun u hm => hu u (List.mem_cons_of_mem _ hm)) with e | e
          · left; rw [e, List.take_append_drop]
          · right; rw [e, ← List.append_assoc, List.take_append_drop]
end Go.Proofs.YtiebedcldbmlhaaGreatDoor
