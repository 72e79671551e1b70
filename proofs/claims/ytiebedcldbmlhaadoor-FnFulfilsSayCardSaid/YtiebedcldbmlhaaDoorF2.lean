/-
  What readFloat and the decimal's set read, as plain functions over lists of numbers. Conditions: none.
-/
import Derived.Test.YtiebedcldbmlhaaDoorF1
namespace Go.Proofs.YtiebedcldbmlhaaDoor.Fl
set_option linter.unusedVariables false

/-- lower -/
def low (c : Nat) : Nat := c ||| 32
def isD (c : Nat) : Bool := decide (48 ≤ c) && decide (c ≤ 57)
def signOf : List Nat → Bool × List Nat
  | [] => (false, [])
  | c :: l => if c = 43 then (false, l) else if c = 45 then (true, l) else (false, c :: l)
/-- The digits of an exponent. -/
def expRun : Nat → Bool → List Nat → Nat × Bool × List Nat
  | e, us, [] => (e, us, [])
  | e, us, c :: l => if c = 95 then expRun e true l else if 48 ≤ c ∧ c ≤ 57 then expRun (if e < 10000 then e * 10 + (c - 48) else e) us l else (e, us, c :: l)
def expTail (us : Bool) (dp : Int) (ng : Bool) : List Nat → Option (Int × Bool × List Nat)
  | [] => none
  | d :: r => if 48 ≤ d ∧ d ≤ 57 then some (dp + (if ng then -((expRun 0 us (d :: r)).1 : Int) else ((expRun 0 us (d :: r)).1 : Int)), (expRun 0 us (d :: r)).2) else none
/-- An exponent, if there is one; the point behind it, whether underscores were met, what is left. -/
def expOf (hx us : Bool) (dp : Int) : List Nat → Option (Int × Bool × List Nat)
  | [] => if hx then none else some (dp, us, [])
  | c :: l =>
    if low c = (if hx then 112 else 101) then expTail us dp (signOf l).1 (signOf l).2
    else if hx then none else some (dp, us, c :: l)
/-- What readFloat has read. -/
structure Rf where
  man : Nat
  dot : Bool
  dig : Bool
  nd : Nat
  nm : Nat
  dp : Int
  tr : Bool
  us : Bool
def base (hx : Bool) : Nat := if hx then 16 else 10
def maxd (hx : Bool) : Nat := if hx then 16 else 19
def rfStep (hx : Bool) (r : Rf) (c : Nat) : Option Rf :=
  if c = 95 then some { r with us := true }
  else if c = 46 then (if r.dot then none else some { r with dot := true, dp := r.nd })
  else if 48 ≤ c ∧ c ≤ 57 then
    if c = 48 ∧ r.nd = 0 then some { r with dig := true, dp := r.dp - 1 }
    else if r.nm < maxd hx then some { r with dig := true, nd := r.nd + 1, man := r.man * base hx + (c - 48), nm := r.nm + 1 }
    else some { r with dig := true, nd := r.nd + 1, tr := r.tr || decide (c ≠ 48) }
  else if hx = true ∧ 97 ≤ low c ∧ low c ≤ 102 then
    if r.nm < maxd hx then some { r with dig := true, nd := r.nd + 1, man := r.man * 16 + (low c - 87), nm := r.nm + 1 }
    else some { r with dig := true, nd := r.nd + 1, tr := true }
  else none
def rfRun (hx : Bool) : Rf → List Nat → Rf × List Nat
  | r, [] => (r, [])
  | r, c :: l => match rfStep hx r c with
    | none => (r, c :: l)
    | some r' => rfRun hx r' l
def rf0 : Rf := ⟨0, false, false, 0, 0, 0, false, false⟩
/-- The sign of a hexadecimal number. -/
def hexOf : List Nat → Bool × List Nat
  | a :: c :: d :: l => if a = 48 ∧ low c = 120 then (true, d :: l) else (false, a :: c :: d :: l)
  | l => (false, l)
/-- Whether underscores stand where they may: the loop. -/
def uRun (hx : Bool) : Nat → List Nat → Bool
  | i, [] => decide (i ≠ 95)
  | i, c :: l =>
    if (48 ≤ c ∧ c ≤ 57) ∨ (hx = true ∧ 97 ≤ low c ∧ low c ≤ 102) then uRun hx 48 l
    else if c = 95 then (if i = 48 then uRun hx 95 l else false)
    else if i = 95 then false else uRun hx 33 l
def uOk (l : List Nat) : Bool :=
  match (signOf l).2 with
  | a :: c :: r => if a = 48 ∧ (low c = 98 ∨ low c = 111 ∨ low c = 120) then uRun (decide (low c = 120)) 48 r else uRun false 94 (a :: c :: r)
  | r => uRun false 94 r
/-- What readFloat tells of a text that begins with a number. -/
structure Rd where
  man : Nat
  exp : Int
  neg : Bool
  tr : Bool
  hx : Bool
  n : Nat
def rdTail (l : List Nat) (ng hx : Bool) (r : Rf) (rest : List Nat) : Option Rd :=
  if r.dig = false then none else
  match expOf hx r.us ((if hx then 4 else 1) * (if r.dot then r.dp else r.nd)) rest with
  | none => none
  | some (dp, us, rest') =>
    if us = true ∧ uOk (l.take (l.length - rest'.length)) = false then none
    else some ⟨r.man, if r.man = 0 then 0 else dp - (if hx then 4 else 1) * r.nm, ng, r.tr, hx, l.length - rest'.length⟩
def readF (l : List Nat) : Option Rd :=
  if l = [] then none else
  rdTail l (signOf l).1 (hexOf (signOf l).2).1 (rfRun (hexOf (signOf l).2).1 rf0 (hexOf (signOf l).2).2).1 (rfRun (hexOf (signOf l).2).1 rf0 (hexOf (signOf l).2).2).2

/-- What set has read. -/
structure Sd where
  D : Nat
  nd : Nat
  dp : Int
  tr : Bool
  dot : Bool
  dig : Bool
def sd0 : Sd := ⟨0, 0, 0, false, false, false⟩
inductive SdR where
  | go (r : Sd)
  | stop
  | fail
def sdStep (r : Sd) (c : Nat) : SdR :=
  if c = 95 then .go r
  else if c = 46 then (if r.dot then .fail else .go { r with dot := true, dp := r.nd })
  else if 48 ≤ c ∧ c ≤ 57 then
    if c = 48 ∧ r.nd = 0 then .go { r with dig := true, dp := r.dp - 1 }
    else if r.nd < 800 then .go { r with dig := true, nd := r.nd + 1, D := 10 * r.D + (c - 48) }
    else .go { r with dig := true, tr := r.tr || decide (c ≠ 48) }
  else .stop
def sdRun : Sd → List Nat → Option (Sd × List Nat)
  | r, [] => some (r, [])
  | r, c :: l => match sdStep r c with
    | .go r' => sdRun r' l
    | .stop => some (r, c :: l)
    | .fail => none
def sdTail (r : Sd) (rest : List Nat) : Option St :=
  if r.dig = false then none else
  match expOf false false (if r.dot then r.dp else r.nd) rest with
  | some (dp, _, []) => some ⟨r.D, r.nd, dp, r.tr⟩
  | _ => none
def setF (l : List Nat) : Option St :=
  if l = [] then none else
  match sdRun sd0 (signOf l).2 with
  | none => none
  | some (r, rest) => sdTail r rest
end Go.Proofs.YtiebedcldbmlhaaDoor.Fl
