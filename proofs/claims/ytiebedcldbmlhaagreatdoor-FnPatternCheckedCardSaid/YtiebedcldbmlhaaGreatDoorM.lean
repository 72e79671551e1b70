/- The functions of the path parser as Lean functions over lists of bytes (no program, no memory in this text).
   Conditions: none; they mirror the Go text statement by statement, 'none' where it panics. -/
import Derived.Lib.Bytealg
import Derived.Lib.AtoiAll
import Derived.Lib.ParseBool
import Derived.Lib.ItoaNum
import Derived.Lib.IsU
import Derived.Lib.RuneCount
namespace Go.Proofs.YtiebedcldbmlhaaGreatDoor
open Go.Lib (indexByte)

abbrev Bs := List UInt8

/-- A place in a text, or -1. -/
def oi : Option Nat → Int
  | none => -1
  | some n => (n : Int)

/-- The first place of a byte. -/
def fb (s : Bs) (c : UInt8) : Option Nat := s.findIdx? (· == c)
/-- The last place of a byte. -/
def lbGo (s : Bs) (c : UInt8) : Nat → Option Nat
  | 0 => none
  | k + 1 => if s[k]? = some c then some k else lbGo s c k
def lb (s : Bs) (c : UInt8) : Option Nat := lbGo s c s.length

/-- findNextCharsetPosition -/
def nextCS (s cs : Bs) : Option Nat := s.findIdx? (fun b => cs.contains b)

/-- findNextNonEscapedCharsetPosition, from a place on -/
def nneGo (s cs : Bs) : Nat → Nat → Option Nat
  | 0, p => some p
  | k + 1, p =>
    if 0 < p ∧ s[p - 1]? = some 92 then
      if s.length = p + 1 then none
      else match nextCS (s.drop (p + 1)) cs with
        | none => none
        | some q => nneGo s cs k (q + p + 1)
    else some p
def nne (s cs : Bs) : Option Nat :=
  match nextCS s cs with
  | none => none
  | some p => nneGo s cs s.length p

/-- one byte of findNextCharsetPositionConstraint -/
def conStep (s : Bs) (a b : Int) (next : Int) (c : UInt8) : Int :=
  if oi (fb s c) ≠ -1 ∧ (oi (fb s c) < next ∨ next = -1) then
    if (oi (fb s c) > a ∧ oi (fb s c) > b) ∨ (oi (fb s c) < a ∧ oi (fb s c) < b) then oi (fb s c) else next
  else next
def nextCon (s cs : Bs) : Int := cs.foldl (conStep s (oi (nne s [60])) (oi (nne s [62]))) (-1)

/-- splitNonEscaped at one byte -/
def splitGo (sep : UInt8) : Nat → Bs → List Bs
  | 0, s => [s]
  | k + 1, s =>
    match nne s [sep] with
    | none => [s]
    | some i => s.take i :: splitGo sep k (s.drop (i + 1))
def splitNE (s : Bs) (sep : UInt8) : List Bs := splitGo sep s.length s

/-- RemoveEscapeChar -/
def unesc (s : Bs) : Bs := s.filter (· != 92)
/-- GetTrimmedParam -/
def trimmed (s : Bs) : Bs :=
  match s with
  | [] => []
  | c :: r => if c = 58 then (if (c :: r).getLast? = some 63 then r.dropLast else r) else c :: r

def b (s : String) : Bs := s.toUTF8.data.toList
/-- getParamConstraintType -/
def ctype (s : Bs) : Int :=
  if s = b "int" then 2
  else if s = b "bool" then 3
  else if s = b "float" then 4
  else if s = b "alpha" then 5
  else if s = b "guid" then 7
  else if s = b "minLen" ∨ s = b "minlen" then 8
  else if s = b "maxLen" ∨ s = b "maxlen" then 9
  else if s = b "len" then 10
  else if s = b "betweenLen" ∨ s = b "betweenlen" then 11
  else if s = b "min" then 12
  else if s = b "max" then 13
  else if s = b "range" then 14
  else if s = b "datetime" then 6
  else if s = b "regex" then 15
  else 1

structure Con where
  id : Int
  data : List Bs
  deriving DecidableEq

structure Seg where
  const : Bs
  isParam : Bool
  name : Bs
  cmp : Bs
  partCount : Int
  greedy : Bool
  optional : Bool
  last : Bool
  optSlash : Bool
  cons : List Con
  length : Int
  deriving DecidableEq

def starts : Bs := [42, 43, 58]
def delims : Bs := [58, 92, 47, 45, 46]
def ends : Bs := [63, 58, 92, 47, 45, 46]

/-- findNextParamPosition -/
def paramPos (p : Bs) : Option Nat :=
  match nne p starts with
  | none => none
  | some i => if p[i]? ≠ some 42 ∧ nne (p.drop (i + 1)) starts = some 0 then some (i + 1) else some i

/-- analyseConstantPart -/
def constPart (p : Bs) (i : Option Nat) : Bs × Seg :=
  let q := match i with | none => p | some n => p.take n
  (q, { const := unesc q, isParam := false, name := [], cmp := [], partCount := 0, greedy := false, optional := false, last := false, optSlash := false, cons := [], length := (unesc q).length })

/-- one constraint's text -/
def oneCon (c : Bs) : Option Con :=
  match nne c [40], lb c 41 with
  | some st, some en =>
    if en < st + 1 then none   -- the slice expression panics
    else
      let id := ctype (c.take st)
      if id = 15 then some ⟨15, []⟩
      else
        let d := splitNE ((c.drop (st + 1)).take (en - (st + 1))) 44
        some ⟨id, if d.length = 1 ∨ d.length = 2 then d.map unesc else d⟩
  | _, _ => some ⟨ctype c, []⟩

def allCons : List Bs → Option (List Con)
  | [] => some []
  | c :: r => match oneCon c with
    | none => none
    | some x => match allCons r with
      | none => none
      | some l => some (x :: l)

/-- where a parameter ends -/
def paramEnd (p : Bs) : Nat :=
  if p.head? = some 42 ∨ p.head? = some 43 then 0
  else
    let e := if p.contains 60 && p.contains 62 then nextCon (p.drop 1) ends else oi (nne (p.drop 1) ends)
    if e = -1 then p.length - 1
    else if delims.contains (p.getD (e.toNat + 1) 0) then e.toNat else e.toNat + 1

/-- analyseParameterPart: what it takes, the segment, the counts of stars and pluses behind it -/
def paramPart (p : Bs) (stars pluses : Nat) : Option (Bs × Seg × Nat × Nat) :=
  let e := paramEnd p
  let st := if 0 < e then nne (p.take e) [60] else none
  let en := if 0 < e then lb (p.take (e + 1)) 62 else none
  let q := p.take (e + 1)
  let wild := p.head? = some 42
  let plus := p.head? = some 43
  let rest (name : Bs) (cons : List Con) : Bs × Seg × Nat × Nat :=
    let n := if wild then name ++ Go.Lib.itoa (stars + 1 : Nat) else if plus then name ++ Go.Lib.itoa (pluses + 1 : Nat) else name
    (q, { const := [], isParam := true, name := n, cmp := [], partCount := 0, greedy := wild || plus, optional := wild || p[e]? = some 63, last := false, optSlash := false, cons := cons, length := 0 },
      if wild then stars + 1 else stars, if !wild && plus then pluses + 1 else pluses)
  match st, en with
  | some a, some z =>
    if z < a + 1 then none
    else match allCons (splitNE ((p.drop (a + 1)).take (z - (a + 1))) 59) with
      | none => none
      | some cons => some (rest (unesc (trimmed (p.take a))) cons)
  | _, _ => some (rest (unesc (trimmed q)) [])

/-- the loop of parseRoute -/
def parseGo : Nat → Bs → Nat → Nat → List Seg → List Bs → Option (List Seg × List Bs)
  | 0, _, _, _, segs, params => some (segs, params)
  | k + 1, p, stars, pluses, segs, params =>
    if p = [] then some (segs, params)
    else match paramPos p with
      | some 0 => match paramPart p stars pluses with
        | none => none
        | some (q, sg, s', p') => parseGo k (p.drop q.length) s' p' (segs ++ [sg]) (params ++ [sg.name])
      | i => parseGo k (p.drop (constPart p i).1.length) stars pluses (segs ++ [(constPart p i).2]) params

def markLast (l : List Seg) : List Seg :=
  match l.reverse with
  | [] => []
  | x :: r => r.reverse ++ [{ x with last := true }]

/-- utils.TrimRight -/
def trimRight (s : Bs) (c : UInt8) : Bs := (s.reverse.dropWhile (· == c)).reverse

/-- the first loop of addParameterMetaInfo: from the end -/
def cmpBack : List Seg → List Seg × Bs
  | [] => ([], [])
  | x :: r =>
    let (l, c) := cmpBack r
    if x.isParam then ({ x with cmp := unesc c } :: l, c)
    else (x :: l, if 1 < x.const.length then trimRight x.const 47 else x.const)

/-- zzCount: how often, without overlap; of the empty text: one more than there are runes -/
def countGo (sub : Bs) : Nat → Bs → Nat
  | 0, _ => 0
  | k + 1, s =>
    if s.length < sub.length then 0
    else if sub.isPrefixOf s then countGo sub k (s.drop sub.length) + 1
    else countGo sub k (s.drop 1)
def countS (s sub : Bs) : Nat := if sub = [] then Go.Lib.runeCountL s + 1 else countGo sub (s.length + 1) s

/-- the second loop of addParameterMetaInfo; 'none': an empty constant part -/
def metaFwd : List Seg → Option (List Seg)
  | [] => some []
  | x :: r =>
    let y : Option Seg :=
      if x.isParam then
        let len : Int := match r with
          | [] => x.length
          | z :: _ => if !x.greedy && z.isParam && !z.greedy then 1 else x.length
        let pc : Int := if x.cmp = [] then x.partCount else r.foldl (fun n z => if z.isParam then n else n + countS z.const x.cmp) x.partCount
        some { x with length := len, partCount := pc }
      else match x.const.getLast? with
        | none => none
        | some c => some (if c = 47 ∧ (x.last = true ∨ (r.head?.map (·.optional)) = some true) then { x with optSlash := true } else x)
    match y with
    | none => none
    | some y => match metaFwd r with
      | none => none
      | some l => some (y :: l)

/-- parseRoute: the segments and the parameters' names; 'none': it panics -/
def parse (p : Bs) : Option (List Seg × List Bs) :=
  match parseGo p.length p 0 0 [] [] with
  | none => none
  | some (segs, params) => match metaFwd (cmpBack (markLast segs)).1 with
    | none => none
    | some l => if 30 < params.length then none else some (l, params)

/-- zzIndex, zzLastIndex -/
def idxGo (sub : Bs) : Nat → Bs → Nat → Option Nat
  | 0, _, _ => none
  | k + 1, s, i => if s.length < sub.length then none else if sub.isPrefixOf s then some i else idxGo sub k (s.drop 1) (i + 1)
def idx (s sub : Bs) : Option Nat := idxGo sub (s.length + 1) s 0
def lastGo (s sub : Bs) : Nat → Option Nat
  | 0 => none
  | k + 1 => if sub.isPrefixOf (s.drop k) then some k else lastGo s sub k
def lastIdx (s sub : Bs) : Option Nat := if s.length < sub.length then none else lastGo s sub (s.length - sub.length + 1)

/-- findGreedyParamLen -/
def greedyGo (sub : Bs) : Nat → Nat → Bs → Bs
  | 0, _, s => s
  | _ + 1, 0, s => s
  | k + 1, c + 1, s => match lastIdx s sub with
    | none => s
    | some p => greedyGo sub k c (s.take p)

/-- findParamLen -/
def paramLen (s : Bs) (x : Seg) : Nat :=
  if x.last then
    if x.greedy then s.length else (fb s 47).getD s.length
  else if x.length ≠ 0 ∧ x.length ≤ s.length then x.length.toNat
  else if x.length = 0 ∨ (s.length : Int) < x.length then
    if x.greedy ∧ 1 < countS s x.cmp then (greedyGo x.cmp x.partCount.toNat (countS s x.cmp) s).length
    else match x.cmp with
      | [c] => (fb s c).getD s.length
      | _ => match idx s x.cmp with
        | none => s.length
        | some p => if !x.greedy ∧ (s.take p).contains 47 then 0 else p
  else 0

/-- getMatch: the values; 'none': no match. 'chk' tells whether a value fulfils a constraint. -/
def matchGo (chk : Con → Bs → Bool) (part : Bool) : List Seg → Bs → List Bs → Option (List Bs)
  | [], s, vs => if s ≠ [] ∧ part = false then none else some vs
  | x :: r, s, vs =>
    if !x.isParam then
      if x.optSlash ∧ (s.length : Int) = x.length - 1 ∧ s = x.const.take (x.length - 1).toNat then matchGo chk part r (s.drop (x.length - 1).toNat) vs
      else if x.length ≤ s.length ∧ s.take x.length.toNat = x.const then matchGo chk part r (s.drop x.length.toNat) vs
      else none
    else
      let i := paramLen s x
      if !x.optional ∧ i = 0 then none
      else if !(x.optional ∧ i = 0) ∧ (x.cons.any fun c => !chk c (s.take i)) then none
      else matchGo chk part r (s.drop i) (vs ++ [s.take i])

end Go.Proofs.YtiebedcldbmlhaaGreatDoor
