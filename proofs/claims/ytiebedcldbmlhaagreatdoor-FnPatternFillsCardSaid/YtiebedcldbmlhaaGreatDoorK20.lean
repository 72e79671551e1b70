/-
  Joined: The functions of the path parser as Lean functions over lists of bytes (no program, no memory in this text).    Conditions: none; they mirror the Go text statement by statement, 'none' where it panics; Small laws on the parser's functions, on bytes and worlds, of whatever text; The functions strings.IndexByte and findNextCharsetPosition answer the first place of a sign; The function findNextNonEscapedCharsetPosition answers the first place of a sign that is not escaped.
  Conditions: each law's own.
-/
import Derived.Lib.Bytealg
import Derived.Lib.AtoiAll
import Derived.Lib.ParseBool
import Derived.Lib.ItoaNum
import Derived.Lib.IsU
import Derived.Lib.RuneCount
import Derived.Test.YtiebedcldbmlhaaGreatDoorShelf
import Derived.WalkKit
import Derived.Lib.Hide
import Derived.Outline
import Derived.Deep.DeepFit
import Derived.WalkSpells
import Derived.WalkLawsBesides
namespace Go.Proofs.YtiebedcldbmlhaaGreatDoor
open Go.Lib (indexByte)

abbrev Bs := List UInt8

/-- A place in a text, or -1. -/
def oi : Option Nat → Int
  | none => -1
  | some n => (n : Int)

/-- The first place of a byte. -/
def fb (s : Bs) (c : UInt8) : Option Nat := s.findIdx? (· == c)
/-- The last place of a byte. -/
def lbGo (s : Bs) (c : UInt8) : Nat → Option Nat
  | 0 => none
  | k + 1 => if s[k]? = some c then some k else lbGo s c k
def lb (s : Bs) (c : UInt8) : Option Nat := lbGo s c s.length

/-- findNextCharsetPosition -/
def nextCS (s cs : Bs) : Option Nat := s.findIdx? (fun b => cs.contains b)

/-- findNextNonEscapedCharsetPosition, from a place on -/
def nneGo (s cs : Bs) : Nat → Nat → Option Nat
  | 0, p => some p
  | k + 1, p =>
    if 0 < p ∧ s[p - 1]? = some 92 then
      if s.length = p + 1 then none
      else match nextCS (s.drop (p + 1)) cs with
        | none => none
        | some q => nneGo s cs k (q + p + 1)
    else some p
def nne (s cs : Bs) : Option Nat :=
  match nextCS s cs with
  | none => none
  | some p => nneGo s cs s.length p

/-- one byte of findNextCharsetPositionConstraint -/
def conStep (s : Bs) (a b : Int) (next : Int) (c : UInt8) : Int :=
  if oi (fb s c) ≠ -1 ∧ (oi (fb s c) < next ∨ next = -1) then
    if (oi (fb s c) > a ∧ oi (fb s c) > b) ∨ (oi (fb s c) < a ∧ oi (fb s c) < b) then oi (fb s c) else next
  else next
def nextCon (s cs : Bs) : Int := cs.foldl (conStep s (oi (nne s [60])) (oi (nne s [62]))) (-1)

/-- splitNonEscaped at one byte -/
def splitGo (sep : UInt8) : Nat → Bs → List Bs
  | 0, s => [s]
  | k + 1, s =>
    match nne s [sep] with
    | none => [s]
    | some i => s.take i :: splitGo sep k (s.drop (i + 1))
def splitNE (s : Bs) (sep : UInt8) : List Bs := splitGo sep s.length s

/-- RemoveEscapeChar -/
def unesc (s : Bs) : Bs := s.filter (· != 92)
/-- GetTrimmedParam -/
def trimmed (s : Bs) : Bs :=
  match s with
  | [] => []
  | c :: r => if c = 58 then (if (c :: r).getLast? = some 63 then r.dropLast else r) else c :: r

def b (s : String) : Bs := s.toUTF8.data.toList
/-- getParamConstraintType -/
def ctype (s : Bs) : Int :=
  if s = b "int" then 2
  else if s = b "bool" then 3
  else if s = b "float" then 4
  else if s = b "alpha" then 5
  else if s = b "guid" then 7
  else if s = b "minLen" ∨ s = b "minlen" then 8
  else if s = b "maxLen" ∨ s = b "maxlen" then 9
  else if s = b "len" then 10
  else if s = b "betweenLen" ∨ s = b "betweenlen" then 11
  else if s = b "min" then 12
  else if s = b "max" then 13
  else if s = b "range" then 14
  else if s = b "datetime" then 6
  else if s = b "regex" then 15
  else 1

structure Con where
  id : Int
  data : List Bs
  deriving DecidableEq

structure Seg where
  const : Bs
  isParam : Bool
  name : Bs
  cmp : Bs
  partCount : Int
  greedy : Bool
  optional : Bool
  last : Bool
  optSlash : Bool
  cons : List Con
  length : Int
  deriving DecidableEq

def starts : Bs := [42, 43, 58]
def delims : Bs := [58, 92, 47, 45, 46]
def ends : Bs := [63, 58, 92, 47, 45, 46]

/-- findNextParamPosition -/
def paramPos (p : Bs) : Option Nat :=
  match nne p starts with
  | none => none
  | some i => if p[i]? ≠ some 42 ∧ nne (p.drop (i + 1)) starts = some 0 then some (i + 1) else some i

/-- analyseConstantPart -/
def constPart (p : Bs) (i : Option Nat) : Bs × Seg :=
  let q := match i with | none => p | some n => p.take n
  (q, { const := unesc q, isParam := false, name := [], cmp := [], partCount := 0, greedy := false, optional := false, last := false, optSlash := false, cons := [], length := (unesc q).length })

/-- one constraint's text -/
def oneCon (c : Bs) : Option Con :=
  match nne c [40], lb c 41 with
  | some st, some en =>
    if en < st + 1 then none   -- the slice expression panics
    else
      let id := ctype (c.take st)
      if id = 15 then some ⟨15, []⟩
      else
        let d := splitNE ((c.drop (st + 1)).take (en - (st + 1))) 44
        some ⟨id, if d.length = 1 ∨ d.length = 2 then d.map unesc else d⟩
  | _, _ => some ⟨ctype c, []⟩

def allCons : List Bs → Option (List Con)
  | [] => some []
  | c :: r => match oneCon c with
    | none => none
    | some x => match allCons r with
      | none => none
      | some l => some (x :: l)

/-- where a parameter ends -/
def paramEnd (p : Bs) : Nat :=
  if p.head? = some 42 ∨ p.head? = some 43 then 0
  else
    let e := if p.contains 60 && p.contains 62 then nextCon (p.drop 1) ends else oi (nne (p.drop 1) ends)
    if e = -1 then p.length - 1
    else if delims.contains (p.getD (e.toNat + 1) 0) then e.toNat else e.toNat + 1

/-- analyseParameterPart: what it takes, the segment, the counts of stars and pluses behind it -/
def paramPart (p : Bs) (stars pluses : Nat) : Option (Bs × Seg × Nat × Nat) :=
  let e := paramEnd p
  let st := if 0 < e then nne (p.take e) [60] else none
  let en := if 0 < e then lb (p.take (e + 1)) 62 else none
  let q := p.take (e + 1)
  let wild := p.head? = some 42
  let plus := p.head? = some 43
  let rest (name : Bs) (cons : List Con) : Bs × Seg × Nat × Nat :=
    let n := if wild then name ++ Go.Lib.itoa (stars + 1 : Nat) else if plus then name ++ Go.Lib.itoa (pluses + 1 : Nat) else name
    (q, { const := [], isParam := true, name := n, cmp := [], partCount := 0, greedy := wild || plus, optional := wild || p[e]? = some 63, last := false, optSlash := false, cons := cons, length := 0 },
      if wild then stars + 1 else stars, if !wild && plus then pluses + 1 else pluses)
  match st, en with
  | some a, some z =>
    if z < a + 1 then none
    else match allCons (splitNE ((p.drop (a + 1)).take (z - (a + 1))) 59) with
      | none => none
      | some cons => some (rest (unesc (trimmed (p.take a))) cons)
  | _, _ => some (rest (unesc (trimmed q)) [])

/-- the loop of parseRoute -/
def parseGo : Nat → Bs → Nat → Nat → List Seg → List Bs → Option (List Seg × List Bs)
  | 0, _, _, _, segs, params => some (segs, params)
  | k + 1, p, stars, pluses, segs, params =>
    if p = [] then some (segs, params)
    else match paramPos p with
      | some 0 => match paramPart p stars pluses with
        | none => none
        | some (q, sg, s', p') => parseGo k (p.drop q.length) s' p' (segs ++ [sg]) (params ++ [sg.name])
      | i => parseGo k (p.drop (constPart p i).1.length) stars pluses (segs ++ [(constPart p i).2]) params

def markLast (l : List Seg) : List Seg :=
  match l.reverse with
  | [] => []
  | x :: r => r.reverse ++ [{ x with last := true }]

/-- utils.TrimRight -/
def trimRight (s : Bs) (c : UInt8) : Bs := (s.reverse.dropWhile (· == c)).reverse

/-- the first loop of addParameterMetaInfo: from the end -/
def cmpBack : List Seg → List Seg × Bs
  | [] => ([], [])
  | x :: r =>
    let (l, c) := cmpBack r
    if x.isParam then ({ x with cmp := unesc c } :: l, c)
    else (x :: l, if 1 < x.const.length then trimRight x.const 47 else x.const)

/-- zzCount: how often, without overlap; of the empty text: one more than there are runes -/
def countGo (sub : Bs) : Nat → Bs → Nat
  | 0, _ => 0
  | k + 1, s =>
    if s.length < sub.length then 0
    else if sub.isPrefixOf s then countGo sub k (s.drop sub.length) + 1
    else countGo sub k (s.drop 1)
def countS (s sub : Bs) : Nat := if sub = [] then Go.Lib.runeCountL s + 1 else countGo sub (s.length + 1) s

/-- the second loop of addParameterMetaInfo; 'none': an empty constant part -/
def metaFwd : List Seg → Option (List Seg)
  | [] => some []
  | x :: r =>
    let y : Option Seg :=
      if x.isParam then
        let len : Int := match r with
          | [] => x.length
          | z :: _ => if !x.greedy && z.isParam && !z.greedy then 1 else x.length
        let pc : Int := if x.cmp = [] then x.partCount else r.foldl (fun n z => if z.isParam then n else n + countS z.const x.cmp) x.partCount
        some { x with length := len, partCount := pc }
      else match x.const.getLast? with
        | none => none
        | some c => some (if c = 47 ∧ (x.last = true ∨ (r.head?.map (·.optional)) = some true) then { x with optSlash := true } else x)
    match y with
    | none => none
    | some y => match metaFwd r with
      | none => none
      | some l => some (y :: l)

/-- parseRoute: the segments and the parameters' names; 'none': it panics -/
def parse (p : Bs) : Option (List Seg × List Bs) :=
  match parseGo p.length p 0 0 [] [] with
  | none => none
  | some (segs, params) => match metaFwd (cmpBack (markLast segs)).1 with
    | none => none
    | some l => if 30 < params.length then none else some (l, params)

/-- zzIndex, zzLastIndex -/
def idxGo (sub : Bs) : Nat → Bs → Nat → Option Nat
  | 0, _, _ => none
  | k + 1, s, i => if s.length < sub.length then none else if sub.isPrefixOf s then some i else idxGo sub k (s.drop 1) (i + 1)
def idx (s sub : Bs) : Option Nat := idxGo sub (s.length + 1) s 0
def lastGo (s sub : Bs) : Nat → Option Nat
  | 0 => none
  | k + 1 => if sub.isPrefixOf (s.drop k) then some k else lastGo s sub k
def lastIdx (s sub : Bs) : Option Nat := if s.length < sub.length then none else lastGo s sub (s.length - sub.length + 1)

/-- findGreedyParamLen -/
def greedyGo (sub : Bs) : Nat → Nat → Bs → Bs
  | 0, _, s => s
  | _ + 1, 0, s => s
  | k + 1, c + 1, s => match lastIdx s sub with
    | none => s
    | some p => greedyGo sub k c (s.take p)

/-- findParamLen -/
def paramLen (s : Bs) (x : Seg) : Nat :=
  if x.last then
    if x.greedy then s.length else (fb s 47).getD s.length
  else if x.length ≠ 0 ∧ x.length ≤ s.length then x.length.toNat
  else if x.length = 0 ∨ (s.length : Int) < x.length then
    if x.greedy ∧ 1 < countS s x.cmp then (greedyGo x.cmp x.partCount.toNat (countS s x.cmp) s).length
    else match x.cmp with
      | [c] => (fb s c).getD s.length
      | _ => match idx s x.cmp with
        | none => s.length
        | some p => if !x.greedy ∧ (s.take p).contains 47 then 0 else p
  else 0

/-- getMatch: the values; 'none': no match. 'chk' tells whether a value fulfils a constraint. -/
def matchGo (chk : Con → Bs → Bool) (part : Bool) : List Seg → Bs → List Bs → Option (List Bs)
  | [], s, vs => if s ≠ [] ∧ part = false then none else some vs
  | x :: r, s, vs =>
    if !x.isParam then
      if x.optSlash ∧ (s.length : Int) = x.length - 1 ∧ s = x.const.take (x.length - 1).toNat then matchGo chk part r (s.drop (x.length - 1).toNat) vs
      else if x.length ≤ s.length ∧ s.take x.length.toNat = x.const then matchGo chk part r (s.drop x.length.toNat) vs
      else none
    else
      let i := paramLen s x
      if !x.optional ∧ i = 0 then none
      else if !(x.optional ∧ i = 0) ∧ (x.cons.any fun c => !chk c (s.take i)) then none
      else matchGo chk part r (s.drop i) (vs ++ [s.take i])

end Go.Proofs.YtiebedcldbmlhaaGreatDoor
namespace Go.Proofs.YtiebedcldbmlhaaGreatDoor
open Go.RowKit
set_option linter.unusedVariables false

abbrev bs (l : List UInt8) : ByteArray := ⟨l.toArray⟩
theorem bs_data (l : List UInt8) : (bs l).data.toList = l := by simp
theorem bs_of (s : ByteArray) : bs s.data.toList = s := by apply ByteArray.ext; simp
theorem bs_append (a b : List UInt8) : bs a ++ bs b = bs (a ++ b) := by
  apply ByteArray.ext
  simp
theorem bs_size (l : List UInt8) : (bs l).size = l.length := rfl

theorem ret_str {a b : ByteArray} (h : a = b) : Ending.returned (.string a) = .returned (.string b) := by rw [h]
theorem ret_int {k : IntKind} {a b : Int} (h : a = b) : Ending.returned (.int k a) = .returned (.int k b) := by rw [h]
theorem ret_bool {a b : Bool} (h : a = b) : Ending.returned (.bool a) = .returned (.bool b) := by rw [h]

theorem cell_lt {w : World} {a : Addr} {v : Value} (h : w.cell? a = some v) : a.block < w.heap.size := by
  unfold World.cell? at h
  split at h
  · rename_i hh
    exact (Array.getElem?_eq_some_iff.1 hh).1
  · cases h

/-- The cells of a list of bytes. -/
def ByteCells (w : World) (b off : Nat) (cs : Bs) : Prop := ∀ i, i < cs.length → w.cell? ⟨b, off + i, none⟩ = some (.int .u8 ((cs.getD i 0).toNat : Int))

theorem ByteCells.below {B : Nat} {w w' : World} {b off : Nat} {cs : Bs} (h : ByteCells w b off cs) (hb : Below B w w') (hB : b < B) : ByteCells w' b off cs :=
  fun i hi => (hb.cell (p := ⟨b, off + i, none⟩) hB).trans (h i hi)

theorem indexByte_fb (s : Bs) (c : UInt8) : Lib.indexByte s c = oi (fb s c) := by
  unfold fb
  induction s with
  | nil => rfl
  | cons b l ih =>
    rw [Lib.indexByte, List.findIdx?_cons, ih]
    cases hb : b == c with
    | true => simp [oi]
    | false =>
      cases hf : l.findIdx? (· == c) with
      | none => simp [oi]
      | some n =>
        have : ((n : Int) == -1) = false := by rw [beq_eq_false_iff_ne]; omega
        simp [oi, this]

/-- One more byte of a set: the nearer place. -/
def stp (x y : Int) : Int := if y ≠ -1 ∧ (y < x ∨ x = -1) then y else x
theorem stp_take {x y : Int} (h : y ≠ -1 ∧ (y < x ∨ x = -1)) : stp x y = y := if_pos h
theorem stp_keep {x y : Int} (h : ¬ (y ≠ -1 ∧ (y < x ∨ x = -1))) : stp x y = x := if_neg h
theorem stp_none_left (y : Int) : stp (-1) y = y := by
  by_cases h : y = -1
  · subst h; exact stp_keep (by omega)
  · exact stp_take ⟨h, .inr rfl⟩
theorem stp_none_right (x : Int) : stp x (-1) = x := stp_keep (by omega)
theorem oi_none : oi none = -1 := rfl
theorem oi_some (n : Nat) : oi (some n) = (n : Int) := rfl

theorem stp_map (a c : Option Nat) (d : Option Nat) (h : oi d = stp (oi a) (oi c)) : oi (d.map (· + 1)) = stp (oi (a.map (· + 1))) (oi (c.map (· + 1))) := by
  cases a with
  | none =>
    rw [oi_none, stp_none_left] at h
    rw [Option.map_none, oi_none, stp_none_left]
    cases c <;> cases d <;> simp [oi] at h ⊢ <;> omega
  | some a =>
    cases c with
    | none =>
      rw [oi_none, stp_none_right] at h
      rw [Option.map_none, oi_none, stp_none_right]
      cases d <;> simp [oi] at h ⊢ <;> omega
    | some c =>
      rw [Option.map_some, Option.map_some, oi_some, oi_some]
      rw [oi_some, oi_some] at h
      by_cases hc : c < a
      · rw [stp_take ⟨by omega, .inl (by omega)⟩] at h ⊢
        cases d <;> simp [oi] at h ⊢ <;> omega
      · rw [stp_keep (by omega)] at h ⊢
        cases d <;> simp [oi] at h ⊢ <;> omega

theorem findIdx_or (p q : UInt8 → Bool) (s : Bs) : oi (s.findIdx? fun b => p b || q b) = stp (oi (s.findIdx? p)) (oi (s.findIdx? q)) := by
  induction s with
  | nil => rfl
  | cons b l ih =>
    rw [List.findIdx?_cons, List.findIdx?_cons, List.findIdx?_cons]
    cases hp : p b <;> cases hq : q b
    · simp only [Bool.or_self, Bool.false_eq_true, if_false]
      exact stp_map _ _ _ ih
    · simp only [Bool.or_true, if_true, Bool.false_eq_true, if_false]
      cases h1 : l.findIdx? p with
      | none => rfl
      | some n => rw [Option.map_some, oi_some, oi_some, stp_take ⟨by omega, .inl (by omega)⟩]
    · simp only [Bool.or_false, if_true, Bool.false_eq_true, if_false]
      cases h1 : l.findIdx? q with
      | none => rfl
      | some n => rw [Option.map_some, oi_some, oi_some, stp_keep (by omega)]
    · rfl

theorem nextCS_step (s cs : Bs) (k : Nat) (hk : k < cs.length) : oi (nextCS s (cs.take (k + 1))) = stp (oi (nextCS s (cs.take k))) (oi (fb s (cs.getD k 0))) := by
  have e : cs.getD k 0 = cs[k] := by simp [List.getD, hk]
  rw [e]
  have := findIdx_or (fun b => (cs.take k).contains b) (fun b => b == cs[k]) s
  unfold nextCS fb
  rw [← this]
  congr 2
  funext b
  rw [List.take_succ_eq_append_getElem hk, Bool.eq_iff_iff]
  simp only [List.contains_iff_mem, List.mem_append, List.mem_singleton, Bool.or_eq_true, beq_iff_eq]

theorem oi_ge (x : Option Nat) : -1 ≤ oi x := by cases x <;> simp [oi] <;> omega
theorem findIdx_lt {p : UInt8 → Bool} {s : Bs} {n : Nat} (h : s.findIdx? p = some n) : n < s.length := by
  obtain ⟨h1, _⟩ := List.findIdx?_eq_some_iff_getElem.1 h
  exact h1
theorem oi_findIdx_lt (p : UInt8 → Bool) (s : Bs) : oi (s.findIdx? p) < (s.length : Int) ∨ s = [] := by
  cases h : s.findIdx? p with
  | none => cases s with
    | nil => exact .inr rfl
    | cons a l => left; simp [oi]; omega
  | some n => left; have := findIdx_lt h; simp [oi]; omega
end Go.Proofs.YtiebedcldbmlhaaGreatDoor
namespace Go.Proofs.YtiebedcldbmlhaaGreatDoor
open Go.RowKit
set_option linter.unusedVariables false

theorem index_any (s : ByteArray) (c : UInt8) (w : World) :
    Calls Tryz.prog 62 #[.string s, .int .u8 (c.toNat : Int)] w fun e w' => e = .returned (.int .i64 (oi (fb s.data.toList c))) ∧ w = w' :=
  (Tryz.strings_IndexByte s (c.toNat : Int) w).mono fun e w' ⟨he, hw⟩ => ⟨by rw [he, ← indexByte_fb]; congr 3; simp, hw.symm⟩

theorem nextCS_nil (s : Bs) : nextCS s [] = none := by
  unfold nextCS
  exact List.findIdx?_eq_none_iff.2 (by simp)

set_option maxHeartbeats 1000000 in
theorem next_any (s : ByteArray) (b off cap : Nat) (cs : Bs) (w : World) (hs : s.size ≤ 140737488351232) (hl : cs.length ≤ 1000) (hc : ByteCells w b off cs) :
    Calls Tryz.prog 95 #[.string s, .slice (some ⟨b, off, none⟩) cs.length cap] w fun e w' => e = .returned (.int .i64 (oi (nextCS s.data.toList cs))) ∧ w = w' := by
  have HC := Lib.hid hc
  clear hc
  go_enter Tryz.func95, Tryz.ntmps95
  go_wp2
  go_loop [5, 11] (fun nx i => ∃ k : Nat, k ≤ cs.length ∧ i = .int .i64 k ∧ nx = .int .i64 (oi (nextCS s.data.toList (cs.take k)))) (fun _ i => cs.length - (intOf i).toNat)
  case atStart => exact ⟨0, Nat.zero_le _, rfl, by rw [List.take_zero, nextCS_nil]; rfl⟩
  case round =>
    obtain ⟨k, hk, rfl, rfl⟩ := hrel
    by_cases hlt : k < cs.length
    · have hck := HC.out k hlt
      have hst := nextCS_step s.data.toList cs k hlt
      obtain ⟨c, hcd⟩ : ∃ c, c = cs.getD k 0 := ⟨_, rfl⟩
      rw [← hcd] at hck hst
      obtain ⟨x, hx⟩ : ∃ x, x = oi (nextCS s.data.toList (cs.take k)) := ⟨_, rfl⟩
      obtain ⟨y, hy⟩ : ∃ y, y = oi (fb s.data.toList c) := ⟨_, rfl⟩
      rw [← hx, ← hy] at hst
      rw [← hx]
      have HX := Lib.hid hx
      have HY := Lib.hid hy
      have HS := Lib.hid hst
      have HD := Lib.hid hcd
      clear hx hy hst hcd
      go_wp2_with fail
      refine (index_any s c w).mono ?_
      rintro e w' ⟨rfl, rfl⟩
      rw [← HY.out]
      clear hck
      have yb : -1 ≤ y := by rw [HY.out]; exact oi_ge _
      have xb : -1 ≤ x := by rw [HX.out]; exact oi_ge _
      by_cases h : y ≠ -1 ∧ (y < x ∨ x = -1)
      · have HT := Lib.hid (HS.out.trans (stp_take h))
        obtain ⟨h1, h2⟩ := h
        have b1 : (y != -1) = true := by simpa [bne_iff_ne] using h1
        rcases h2 with h2 | h2
        · go_wp2
          all_goals
            go_round
            case rel => exact ⟨k + 1, by omega, by go_num, by rw [HT.out]⟩
            case measure => simp [intOf]; omega
        · subst h2
          go_wp2
          all_goals
            go_round
            case rel => exact ⟨k + 1, by omega, by go_num, by rw [HT.out]⟩
            case measure => simp [intOf]; omega
      · have HT := Lib.hid (HS.out.trans (stp_keep h))
        by_cases h1 : y = -1
        · subst h1
          go_wp2
          all_goals
            go_round
            case rel => exact ⟨k + 1, by omega, by go_num, by rw [HT.out]⟩
            case measure => simp [intOf]; omega
        · have b1 : (y != -1) = true := by simpa [bne_iff_ne] using h1
          have b2 : (x == -1) = false := by rw [beq_eq_false_iff_ne]; omega
          have b3 : ¬ y < x := by omega
          clear h h1
          go_wp2
          all_goals
            go_round
            case rel => exact ⟨k + 1, by omega, by go_num, by rw [HT.out]⟩
            case measure => simp [intOf]; omega
    · obtain rfl : k = cs.length := by omega
      go_wp2
      go_ret
      exact ⟨by simp, rfl⟩
end Go.Proofs.YtiebedcldbmlhaaGreatDoor
namespace Go.Proofs.YtiebedcldbmlhaaGreatDoor
open Go.RowKit
set_option linter.unusedVariables false

theorem byte_at (s : ByteArray) (i : Nat) (h : i < s.size) : s.data.toList[i]? = some (s[i]'h) := by
  rw [List.getElem?_eq_getElem (by simpa using h)]; rfl
theorem u8_yes {c : UInt8} {m : Int} (h : ((c.toNat : Int) == m) = true) (n : UInt8) (hn : (n.toNat : Int) = m) : c = n := by
  rw [beq_iff_eq] at h
  exact UInt8.toNat_inj.1 (by omega)
theorem u8_no {c : UInt8} {m : Int} (h : ((c.toNat : Int) == m) = false) (n : UInt8) (hn : (n.toNat : Int) = m) : c ≠ n := by
  rw [beq_eq_false_iff_ne] at h
  rintro rfl
  exact h hn
theorem u8_beq (c n : UInt8) (m : Int) (hn : (n.toNat : Int) = m) : ((c.toNat : Int) == m) = (c == n) := by
  cases h : ((c.toNat : Int) == m) with
  | true => rw [u8_yes h n hn]; simp
  | false => simpa using (u8_no h n hn)
theorem extract_from (s : ByteArray) (i : Nat) : (s.extract i s.size).data.toList = s.data.toList.drop i := by
  simp [ByteArray.data_extract]
  rw [List.take_of_length_le (by simp)]
theorem size_data (s : ByteArray) : s.data.toList.length = s.size := by simp

theorem nneGo_stop {l cs : Bs} {k p : Nat} (h : ¬ (0 < p ∧ l[p - 1]? = some 92)) : nneGo l cs k p = some p := by
  cases k with
  | zero => rfl
  | succ k => unfold nneGo; rw [if_neg h]
theorem nneGo_end {l cs : Bs} {k p : Nat} (h0 : 0 < p) (h : l[p - 1]? = some 92) (he : l.length = p + 1) : nneGo l cs (k + 1) p = none := by
  unfold nneGo; rw [if_pos ⟨h0, h⟩, if_pos he]
theorem nneGo_none {l cs : Bs} {k p : Nat} (h0 : 0 < p) (h : l[p - 1]? = some 92) (he : l.length ≠ p + 1) (hn : nextCS (l.drop (p + 1)) cs = none) : nneGo l cs (k + 1) p = none := by
  unfold nneGo; rw [if_pos ⟨h0, h⟩, if_neg he, hn]
theorem nneGo_some {l cs : Bs} {k p q : Nat} (h0 : 0 < p) (h : l[p - 1]? = some 92) (he : l.length ≠ p + 1) (hn : nextCS (l.drop (p + 1)) cs = some q) : nneGo l cs (k + 1) p = nneGo l cs k (q + p + 1) := by
  conv => lhs; unfold nneGo
  rw [if_pos ⟨h0, h⟩, if_neg he, hn]

set_option maxHeartbeats 1000000 in
theorem nne_any (s : ByteArray) (b off cap : Nat) (cs : Bs) (w : World) (hs : s.size ≤ 140737488351232) (hl : cs.length ≤ 1000) (hc : ByteCells w b off cs) :
    Calls Tryz.prog 64 #[.string s, .slice (some ⟨b, off, none⟩) cs.length cap] w fun e w' => e = .returned (.int .i64 (oi (nne s.data.toList cs))) ∧ w = w' := by
  have HC := Lib.hid hc
  clear hc
  go_enter Tryz.func64, Tryz.ntmps64
  go_wp2_with fail
  refine (next_any s b off cap cs w hs hl HC.out).mono ?_
  rintro e w' ⟨rfl, rfl⟩
  go_wp2_with fail
  go_loop [5] (fun p => ∃ q : Int, p = .int .i64 q ∧ ((q = -1 ∧ nne s.data.toList cs = none) ∨ ∃ n k : Nat, q = n ∧ n < s.size ∧ s.size ≤ n + k ∧ nneGo s.data.toList cs k n = nne s.data.toList cs)) (fun p => (s.size - intOf p).toNat)
  case atStart =>
    refine ⟨_, rfl, ?_⟩
    cases h : nextCS s.data.toList cs with
    | none => exact .inl ⟨rfl, by unfold nne; rw [h]⟩
    | some n =>
      have hn := findIdx_lt h
      exact .inr ⟨n, s.size, rfl, by simpa using hn, by omega, by unfold nne; rw [h]; simp⟩
  case round =>
    obtain ⟨q, rfl, hq⟩ := hrel
    rcases hq with ⟨rfl, hN⟩ | ⟨n, k, rfl, hn, hk, hg⟩
    · have HN := Lib.hid hN
      clear hN
      go_wp2
      go_ret
      exact ⟨ret_int (by rw [HN.out]; rfl), rfl⟩
    · have HG := Lib.hid hg
      clear hg
      by_cases h0 : 0 < n
      · have hi : n - 1 < s.size := by omega
        have hb := byte_at s (n - 1) hi
        have HB := Lib.hid hb
        clear hb
        have hk1 : 1 ≤ k := by omega
        obtain ⟨k, rfl⟩ : ∃ j, k = j + 1 := ⟨k - 1, by omega⟩
        go_wp2_with fail
        · have h92 : (((s[n - 1]'hi).toNat : Int) == 92) = true := by assumption
          have he : ((s.size : Int) == (n : Int) + 1) = true := by assumption
          go_ret
          refine ⟨ret_int ?_, rfl⟩
          rw [← HG.out, nneGo_end h0 (by rw [HB.out, u8_yes h92 92 rfl]) (by rw [size_data]; simp at he; omega)]
          rfl
        · have h92 : (((s[n - 1]'hi).toNat : Int) == 92) = true := by assumption
          have he : ((s.size : Int) == (n : Int) + 1) = false := by assumption
          have h1 : s.data.toList[n - 1]? = some 92 := by rw [HB.out, u8_yes h92 92 rfl]
          have h2 : s.data.toList.length ≠ n + 1 := by rw [size_data]; simp at he; omega
          have H1 := Lib.hid h1
          have H2 := Lib.hid h2
          clear h1 h2 h92 he
          refine (next_any _ b off cap cs w (by simp; omega) hl HC.out).mono ?_
          rintro e w' ⟨rfl, rfl⟩
          have hex := Lib.hid (extract_from s (n + 1))
          rw [hex.out]
          cases hN : nextCS (s.data.toList.drop (n + 1)) cs with
          | none =>
            rw [oi_none]
            have HN := Lib.hid hN
            clear hN
            go_wp2
            go_ret
            exact ⟨ret_int (by rw [← HG.out, nneGo_none h0 H1.out H2.out HN.out]; rfl), rfl⟩
          | some q =>
            have hq := findIdx_lt hN
            have hq2 : q + n + 1 < s.size := by simp at hq; omega
            rw [oi_some]
            have HN := Lib.hid hN
            clear hN hq
            go_wp2
            go_round
            case rel => exact ⟨_, rfl, .inr ⟨q + n + 1, k, by omega, hq2, by omega, by rw [← HG.out, nneGo_some h0 H1.out H2.out HN.out]⟩⟩
            case measure => simp [intOf]; omega
        · have h92 : (((s[n - 1]'hi).toNat : Int) == 92) = false := by assumption
          go_ret
          refine ⟨ret_int ?_, rfl⟩
          rw [← HG.out, nneGo_stop (by rw [HB.out]; exact fun h => u8_no h92 92 rfl (Option.some.inj h.2))]
          rfl
      · obtain rfl : n = 0 := by omega
        go_wp2
        go_ret
        exact ⟨ret_int (by rw [← HG.out]; cases k <;> simp [nneGo, oi]), rfl⟩
end Go.Proofs.YtiebedcldbmlhaaGreatDoor
