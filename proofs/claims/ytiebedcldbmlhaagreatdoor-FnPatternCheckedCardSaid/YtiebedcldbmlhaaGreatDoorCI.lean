/-
  A slash and one parameter with one constraint, as the parser reads it. Conditions: the name a word, the constraint of letters, digits and brackets.
-/
import Derived.Test.YtiebedcldbmlhaaGreatDoorCH
import Derived.Test.YtiebedcldbmlhaaGreatDoorP
import Derived.Lib.ItoaNum
import Derived.Lib.AtoiAllCases
namespace Go.Proofs.YtiebedcldbmlhaaGreatDoor
open Go.RowKit
set_option linter.unusedVariables false

/-- A byte of a constraint. -/
def conB (x : UInt8) : Bool := wordB x || x == 40 || x == 41
theorem conB_ne {c : UInt8} (h : conB c = true) (d : UInt8) (hd : conB d = false) : c ≠ d := by rintro rfl; rw [h] at hd; cases hd
theorem conB_word {c : UInt8} (h : wordB c = true) : conB c = true := by unfold conB; rw [h]; simp
theorem lb_snoc (s : Bs) (c : UInt8) : lb (s ++ [c]) c = some s.length := by
  unfold lb
  rw [List.length_append]
  show lbGo _ _ (s.length + 1) = _
  unfold lbGo
  rw [if_pos (by simp)]
theorem fold_no (s : Bs) (a b : Int) : ∀ (cs : Bs), (∀ d ∈ cs, fb s d = none) → cs.foldl (conStep s a b) (-1) = -1
  | [], _ => rfl
  | d :: cs, h => by
    have h1 : conStep s a b (-1) d = -1 := by
      unfold conStep
      rw [h d (List.mem_cons_self ..)]
      simp [oi]
    rw [List.foldl_cons, h1]
    exact fold_no s a b cs fun x hx => h x (List.mem_cons_of_mem _ hx)
/-- The parameter's text. -/
def conText (nm c : Bs) : Bs := 58 :: (nm ++ 60 :: (c ++ [62]))
theorem conText_len (nm c : Bs) : (conText nm c).length = nm.length + c.length + 3 := by simp [conText]; omega
theorem conText_end {nm c : Bs} (hn : ∀ x ∈ nm, wordB x = true) (hc : ∀ x ∈ c, conB x = true) : paramEnd (conText nm c) = nm.length + c.length + 2 := by
  have h1 : (conText nm c).contains 60 = true := by simp [conText]
  have h2 : (conText nm c).contains 62 = true := by simp [conText]
  have h3 : nextCon ((conText nm c).drop 1) ends = -1 := by
    unfold nextCon
    refine fold_no _ _ _ _ fun d hd => fb_no fun y hy => ?_
    have hd2 : conB d = false ∧ d ≠ 60 ∧ d ≠ 62 := by
      simp [ends] at hd
      rcases hd with rfl | rfl | rfl | rfl | rfl | rfl <;> exact ⟨by decide, by decide, by decide⟩
    have hy2 : y ∈ nm ++ 60 :: (c ++ [62]) := hy
    simp only [List.mem_append, List.mem_cons, List.not_mem_nil, or_false] at hy2
    rcases hy2 with hy2 | rfl | hy2 | rfl
    · exact conB_ne (conB_word (hn y hy2)) d hd2.1
    · exact fun e => hd2.2.1 e.symm
    · exact conB_ne (hc y hy2) d hd2.1
    · exact fun e => hd2.2.2 e.symm
  unfold paramEnd
  rw [if_neg (by simp [conText]), h1, h2, h3]
  simp [conText_len]
theorem conText_pos {nm c : Bs} (hn0 : nm ≠ []) (hn : ∀ x ∈ nm, wordB x = true) : paramPos (conText nm c) = some 0 := by
  refine paramPos_const (c := []) 58 (by decide) _ ?_ (by simp)
  cases nm with
  | nil => exact absurd rfl hn0
  | cons x r => exact nne_head (starts_cb (cb_word (hn x (List.mem_cons_self ..))))
theorem slash_pos {nm c : Bs} (hn0 : nm ≠ []) (hn : ∀ x ∈ nm, wordB x = true) : paramPos (47 :: conText nm c) = some 1 := by
  refine paramPos_const (c := [47]) 58 (by decide) _ ?_ (by simp [cb])
  cases nm with
  | nil => exact absurd rfl hn0
  | cons x r => exact nne_head (starts_cb (cb_word (hn x (List.mem_cons_self ..))))
theorem conText_st {nm c : Bs} (hn : ∀ x ∈ nm, wordB x = true) (hc : ∀ x ∈ c, conB x = true) : stOf (conText nm c) = some (nm.length + 1) := by
  unfold stOf
  rw [conText_end hn hc, if_pos (by omega)]
  have e : (conText nm c).take (nm.length + c.length + 2) = (58 :: nm) ++ 60 :: c := by
    rw [show conText nm c = ((58 :: nm) ++ 60 :: c) ++ [62] by simp [conText]]
    exact List.take_left' (by simp; omega)
  rw [e, nne_app (by decide) _ _ (fun x hx => ?_) (fun x hx => ?_)]
  · simp
  · rcases List.mem_cons.1 hx with rfl | hx
    · decide
    · simpa using wordB_ne (hn x hx) 60 (by decide)
  · rcases List.mem_cons.1 hx with rfl | hx
    · decide
    · exact wordB_ne (hn x hx) 92 (by decide)
theorem conText_en {nm c : Bs} (hn : ∀ x ∈ nm, wordB x = true) (hc : ∀ x ∈ c, conB x = true) : enOf (conText nm c) = some (nm.length + c.length + 2) := by
  unfold enOf
  rw [conText_end hn hc, if_pos (by omega), List.take_of_length_le (by rw [conText_len]; omega)]
  rw [show conText nm c = ((58 :: nm) ++ 60 :: c) ++ [62] by simp [conText], lb_snoc]
  simp; omega
theorem split_whole {c : Bs} (d : UInt8) (h : ∀ x ∈ c, x ≠ d) : splitNE c d = [c] := by
  have hn : nne c [d] = none := nne_no fun x hx => by simpa using h x hx
  unfold splitNE
  cases c.length with
  | zero => rfl
  | succ k => unfold splitGo; rw [hn]

theorem conPat_of {s : ByteArray} {nm c : Bs} {con : Con} (hs : s.data.toList = 47 :: conText nm c) (hsz : s.size ≤ 1000000) (hn0 : nm ≠ []) (hn : ∀ x ∈ nm, wordB x = true) (hc : ∀ x ∈ c, conB x = true) (hone : OneOf c con) : ConPat s nm con := by
  have hlen : s.size = nm.length + c.length + 4 := by rw [← size_data, hs, List.length_cons, conText_len]
  refine ⟨hsz, by omega, by rw [hs]; rfl, bs (conText nm c), nm.length + 1, nm.length + c.length + 2, c, ?_, ?_, ?_, ?_, ?_, ?_, by omega, ?_, ?_, hone, ?_, ?_⟩
  · rw [hs]; exact slash_pos hn0 hn
  · rw [hs]; rfl
  · exact conText_pos hn0 hn
  · show paramEnd (conText nm c) + 1 = (conText nm c).length
    rw [conText_end hn hc, conText_len]
  · exact conText_st hn hc
  · exact conText_en hn hc
  · rfl
  · show splitNE (List.take _ (List.drop _ (conText nm c))) 59 = _
    have e : List.take (nm.length + c.length + 2 - (nm.length + 1 + 1)) (List.drop (nm.length + 1 + 1) (conText nm c)) = c := by
      rw [show conText nm c = ((58 :: nm) ++ [60]) ++ (c ++ [62]) by simp [conText], List.drop_left' (by simp)]
      exact List.take_left' (by omega)
    rw [e]
    exact split_whole 59 fun x hx => conB_ne (hc x hx) 59 (by decide)
  · show unesc (trimmed (List.take (nm.length + 1) (conText nm c))) = nm
    have e : List.take (nm.length + 1) (conText nm c) = 58 :: nm := by
      rw [show conText nm c = (58 :: nm) ++ (60 :: (c ++ [62])) by simp [conText]]
      exact List.take_left' (by simp)
    rw [e]
    show unesc (if (58 : UInt8) = 58 then (if (58 :: nm).getLast? = some 63 then nm.dropLast else nm) else 58 :: nm) = nm
    rw [if_pos rfl, if_neg, unesc_id fun x hx => wordB_ne (hn x hx) 92 (by decide)]
    intro h
    have hm := List.mem_of_getLast? h
    rcases List.mem_cons.1 hm with h1 | h1
    · cases h1
    · exact wordB_ne (hn _ h1) 63 (by decide) rfl
  · show (conText nm c)[paramEnd (conText nm c)]? ≠ some 63
    rw [conText_end hn hc, show conText nm c = ((58 :: nm) ++ 60 :: c) ++ [62] by simp [conText], List.getElem?_append_right (by simp; omega)]
    rw [show nm.length + c.length + 2 - ((58 :: nm) ++ 60 :: c).length = 0 by simp; omega]
    decide

theorem one_int : OneOf [105, 110, 116] ⟨2, []⟩ := .inl ⟨by decide +kernel, by decide +kernel⟩
theorem one_bool : OneOf [98, 111, 111, 108] ⟨3, []⟩ := .inl ⟨by decide +kernel, by decide +kernel⟩
theorem one_alpha : OneOf [97, 108, 112, 104, 97] ⟨5, []⟩ := .inl ⟨by decide +kernel, by decide +kernel⟩
theorem one_len (m d : Bs) (hm : ∀ x ∈ m, wordB x = true) (hd : ∀ x ∈ d, wordB x = true) (h15 : ctype m ≠ 15) : OneOf (m ++ 40 :: (d ++ [41])) ⟨ctype m, [d]⟩ := by
  refine .inr ⟨m.length, m.length + d.length + 1, d, ?_, ?_, by omega, ?_, ?_, ?_⟩
  · exact nne_app (by decide) m _ (fun x hx => by simpa using wordB_ne (hm x hx) 40 (by decide)) (fun x hx => wordB_ne (hm x hx) 92 (by decide))
  · rw [show m ++ 40 :: (d ++ [41]) = (m ++ 40 :: d) ++ [41] by simp, lb_snoc]
    simp; omega
  · rw [List.take_left' rfl]; exact h15
  · have e : List.take (m.length + d.length + 1 - (m.length + 1)) (List.drop (m.length + 1) (m ++ 40 :: (d ++ [41]))) = d := by
      rw [show m ++ 40 :: (d ++ [41]) = (m ++ [40]) ++ (d ++ [41]) by simp, List.drop_left' (by simp)]
      exact List.take_left' (by omega)
    rw [e]
    exact split_whole 44 fun x hx => wordB_ne (hd x hx) 44 (by decide)
  · rw [List.take_left' rfl, unesc_id fun x hx => wordB_ne (hd x hx) 92 (by decide)]
theorem ctype_min : ctype [109, 105, 110, 76, 101, 110] = 8 := by decide +kernel
theorem ctype_max : ctype [109, 97, 120, 76, 101, 110] = 9 := by decide +kernel
theorem ctype_len : ctype [108, 101, 110] = 10 := by decide +kernel
end Go.Proofs.YtiebedcldbmlhaaGreatDoor
