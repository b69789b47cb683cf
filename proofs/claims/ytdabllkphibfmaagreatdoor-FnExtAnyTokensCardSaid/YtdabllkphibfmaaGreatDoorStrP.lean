/- What a string of JSON is, byte by byte: plain functions; no program in sight. -/
import Derived.Lib.RuneBytes
import Derived.Lib.UnsafeStr
namespace Go.Proofs.YtdabllkphibfmaaGreatDoor
open Go

/-- A hexadecimal digit, of either case. -/
def hexv (c : UInt8) : Option Nat :=
  if 48 ≤ c.toNat ∧ c.toNat ≤ 57 then some (c.toNat - 48) else if 97 ≤ c.toNat ∧ c.toNat ≤ 102 then some (c.toNat - 87) else if 65 ≤ c.toNat ∧ c.toNat ≤ 70 then some (c.toNat - 55) else none

/-- Four hexadecimal digits. -/
def u4 (a b c d : UInt8) : Option Nat :=
  match hexv a, hexv b, hexv c, hexv d with
  | some x, some y, some z, some v => some (x * 4096 + y * 256 + z * 16 + v)
  | _, _, _, _ => none

/-- What stands behind a backslash, but for u. -/
def unesc (e : UInt8) : Option UInt8 :=
  if e = 34 ∨ e = 92 ∨ e = 47 then some e else if e = 98 then some 8 else if e = 102 then some 12 else if e = 110 then some 10 else if e = 114 then some 13 else if e = 116 then some 9 else none

inductive StrStep
  | err | out | done (r : List UInt8) | more (x : List UInt8) (r : List UInt8)

/-- The bytes of a character. -/
def runeB (n : Nat) : List UInt8 := (Lib.encodeRune (n : Int))

def strU (r : List UInt8) : StrStep :=
  match r with
  | a :: b :: c :: d :: r' =>
    match u4 a b c d with
    | none => .out
    | some n =>
      if n < 55296 ∨ 57344 ≤ n then .more (runeB n) r'
      else match r' with
      | 92 :: 117 :: a' :: b' :: c' :: d' :: r'' =>
        match u4 a' b' c' d' with
        | none => .out
        | some m => if n < 56320 ∧ 56320 ≤ m ∧ m < 57344 then .more (runeB ((n - 55296) * 1024 + (m - 56320) + 65536)) r'' else .out
      | _ => .out
  | _ => .err

def strStep : List UInt8 → StrStep
  | [] => .err
  | c :: r =>
    if c = 34 then .done r
    else if c = 92 then
      match r with
      | [] => .err
      | e :: r' => if e = 117 then strU r' else match unesc e with | some x => .more [x] r' | none => .err
    else .more [c] r

inductive StrEnd
  | err | out | ok (s : List UInt8) (r : List UInt8)

def strRun : Nat → List UInt8 → List UInt8 → StrEnd
  | 0, _, _ => .out
  | f + 1, acc, l =>
    match strStep l with
    | .err => .err
    | .out => .out
    | .done r => .ok acc r
    | .more x r => strRun f (acc ++ x) r

end Go.Proofs.YtdabllkphibfmaaGreatDoor
