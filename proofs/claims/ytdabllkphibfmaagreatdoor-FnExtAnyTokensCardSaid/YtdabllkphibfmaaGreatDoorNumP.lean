/- Numbers of JSON, byte by byte: plain functions. What a number with a point or an exponent is read as is a parameter. -/
import Derived.Test.YtdabllkphibfmaaGreatDoorLit
import Derived.Lib.ParseIntB
namespace Go.Proofs.YtdabllkphibfmaaGreatDoor
open Go Go.RowKit

def isDig (c : UInt8) : Bool := decide (48 ≤ c.toNat ∧ c.toNat ≤ 57)
def isExp (c : UInt8) : Bool := decide (c = 101 ∨ c = 69)

/-- What a byte makes of a number's state. -/
inductive NS
  | go (s : Nat) | done | bad

def numStep : Nat → UInt8 → NS
  | 0, c => if c = 48 then .go 1 else if isDig c then .go 2 else .bad
  | 1, c => if c = 46 then .go 3 else if isExp c then .go 5 else if isTerm c then .done else .bad
  | 2, c => if c = 46 then .go 3 else if isExp c then .go 5 else if isTerm c then .done else if isDig c then .go 2 else .bad
  | 3, c => if isDig c then .go 4 else .bad
  | 4, c => if isExp c then .go 5 else if isTerm c then .done else if isDig c then .go 4 else .bad
  | 5, c => if c = 43 ∨ c = 45 then .go 6 else if isDig c then .go 7 else .bad
  | 6, c => if isDig c then .go 7 else .bad
  | _, c => if isTerm c then .done else if isDig c then .go 7 else .bad

/-- May a number end here? -/
def numEnds (s : Nat) : Bool := s == 1 || s == 2 || s == 4 || s == 7

/-- The number's text, whether it has a point or an exponent, and what follows. -/
def numRun : List UInt8 → Nat → List UInt8 → Option (List UInt8 × Bool × List UInt8)
  | acc, s, [] => if numEnds s then some (acc, decide (2 < s), []) else none
  | acc, s, c :: r =>
    match numStep s c with
    | .go s' => numRun (acc ++ [c]) s' r
    | .done => some (acc, decide (2 < s), c :: r)
    | .bad => none

def numStart (c : UInt8) : Nat := if c = 45 then 0 else if c = 48 then 1 else 2

/-- A number as a float: not told, an error, or its bits. -/
abbrev PF := List UInt8 → Option (Option Nat)

def numFloat (pf : PF) (txt rest : List UInt8) : SubEnd :=
  match pf txt with
  | none => .out
  | some none => .err
  | some (some b) => .tok 8 (.f64 b) rest

def numVal (pf : PF) (txt : List UInt8) (dbl : Bool) (rest : List UInt8) : SubEnd :=
  if dbl then numFloat pf txt rest
  else
    match Lib.parseIntB 64 txt with
    | .ok v => if v < -2147483648 ∨ 2147483647 < v then .tok 7 (.i64 v) rest else .tok 6 (.i32 v) rest
    | _ => numFloat pf txt rest

def numEnd (pf : PF) : Option (List UInt8 × Bool × List UInt8) → SubEnd
  | none => .err
  | some (txt, dbl, rest) => numVal pf txt dbl rest

def numSub (pf : PF) (c : UInt8) (r : List UInt8) : SubEnd := numEnd pf (numRun [c] (numStart c) r)

end Go.Proofs.YtdabllkphibfmaaGreatDoor
