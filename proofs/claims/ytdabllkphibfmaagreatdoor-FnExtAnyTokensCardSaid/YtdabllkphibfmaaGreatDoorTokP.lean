/- Tokens of JSON, byte by byte: plain functions; no program in sight. Numbers and words are parameters. -/
import Derived.Test.YtdabllkphibfmaaGreatDoorStrP
namespace Go.Proofs.YtdabllkphibfmaaGreatDoor
open Go

/-- What a token bears. -/
inductive TV
  | byte (c : Nat) | i32 (v : Int) | i64 (v : Int) | f64 (b : Nat) | str (l : List UInt8) | bool (b : Bool) | nul

/-- As the value of an interface. -/
def TV.val : TV → Value
  | .byte c => .iface 5 (.int .u8 c)
  | .i32 v => .iface 21 (.int .i32 v)
  | .i64 v => .iface 2 (.int .i64 v)
  | .f64 b => .iface 62 (.float .f64 b)
  | .str l => .iface 9 (.string ⟨l.toArray⟩)
  | .bool b => .iface 4 (.bool b)
  | .nul => .nilIface

inductive SubEnd
  | err | out | tok (k : Nat) (v : TV) (r : List UInt8)

def isBlank (c : UInt8) : Bool := c == 32 || c == 9 || c == 13 || c == 10

def strSub (r : List UInt8) : SubEnd :=
  match strRun (r.length + 1) [] r with
  | .err => .err
  | .out => .out
  | .ok s r' => .tok 9 (.str s) r'

/-- The token that begins with c. -/
def tokAt (num lit : UInt8 → List UInt8 → SubEnd) (c : UInt8) (r : List UInt8) : SubEnd :=
  if c = 123 then .tok 0 (.byte 123) r
  else if c = 125 then .tok 1 (.byte 125) r
  else if c = 91 then .tok 2 (.byte 91) r
  else if c = 93 then .tok 3 (.byte 93) r
  else if c = 58 then .tok 4 (.byte 58) r
  else if c = 44 then .tok 5 (.byte 44) r
  else if c = 34 then strSub r
  else if c = 45 ∨ (48 ≤ c.toNat ∧ c.toNat ≤ 57) then num c r
  else if c = 116 ∨ c = 102 ∨ c = 110 then lit c r
  else .err

/-- The tokens of a text of n bytes, of which l is left; with their places in their 512 bytes; false: something is none. -/
def toks (num lit : UInt8 → List UInt8 → SubEnd) (n : Nat) : Nat → List UInt8 → Option (List (Nat × TV × Nat) × Bool)
  | 0, _ => none
  | f + 1, l =>
    match l.dropWhile isBlank with
    | [] => some ([], true)
    | c :: r =>
      match tokAt num lit c r with
      | .err => some ([], false)
      | .out => none
      | .tok k v r' => (toks num lit n f r').map fun x => ((k, v, (n - (r.length + 1)) % 512) :: x.1, x.2)

end Go.Proofs.YtdabllkphibfmaaGreatDoor
