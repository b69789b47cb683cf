/- The mantissa and the exponent of a decimal number: plain functions; no program in sight. -/
import Derived.Test.YtdabllkphibfmaaGreatDoorNumP
namespace Go.Proofs.YtdabllkphibfmaaGreatDoor
open Go Go.RowKit

/-- What is known of a mantissa: its number, how many digits are in it, how many were seen, where the point stands, whether there was one, whether digits, whether some were left out. -/
structure RS where
  m : Nat
  nm : Nat
  nd : Nat
  dp : Int
  dot : Bool
  dig : Bool
  tr : Bool

def RS.zero : RS := ⟨0, 0, 0, 0, false, false, false⟩

def RS.digit (s : RS) (c : UInt8) : RS :=
  if c = 48 ∧ s.nd = 0 then { s with dig := true, dp := s.dp - 1 }
  else if s.nm < 19 then { s with dig := true, nd := s.nd + 1, m := s.m * 10 + (c.toNat - 48), nm := s.nm + 1 }
  else { s with dig := true, nd := s.nd + 1, tr := s.tr || !(c == 48) }

def rfDigits : RS → List UInt8 → RS × List UInt8
  | s, [] => (s, [])
  | s, c :: r =>
    if c = 46 then if s.dot then (s, c :: r) else rfDigits { s with dot := true, dp := s.nd } r
    else if isDig c then rfDigits (s.digit c) r
    else (s, c :: r)

/-- One more digit of an exponent. -/
def expDigit (e : Nat) (c : UInt8) : Nat := if e < 10000 then e * 10 + (c.toNat - 48) else e

def rfExp : Nat → List UInt8 → Nat × List UInt8
  | e, [] => (e, [])
  | e, c :: r => if isDig c then rfExp (expDigit e c) r else (e, c :: r)

def RS.point (s : RS) : Int := if s.dot then s.dp else s.nd

/-- An exponent behind its sign, to the text's end. -/
def rfExpEnd (l : List UInt8) : Option Nat :=
  match l with
  | [] => none
  | d :: _ => if isDig d then (if (rfExp 0 l).2 = [] then some (rfExp 0 l).1 else none) else none

def rfSigned (l : List UInt8) : Option Int :=
  match l with
  | [] => none
  | c :: r => if c = 43 then (rfExpEnd r).map fun (e : Nat) => (e : Int) else if c = 45 then (rfExpEnd r).map fun (e : Nat) => -(e : Int) else (rfExpEnd (c :: r)).map fun (e : Nat) => (e : Int)

/-- What follows the mantissa: nothing, or an exponent. -/
def rfTail (l : List UInt8) : Option Int :=
  match l with
  | [] => some 0
  | c :: r => if isExp c then rfSigned r else none

def rfBody (l : List UInt8) : Option (Nat × Int × Bool) :=
  let s := (rfDigits .zero l).1
  if s.dig then (rfTail (rfDigits .zero l).2).map fun x => (s.m, if s.m = 0 then 0 else s.point + x - s.nm, s.tr) else none

/-- The mantissa, the exponent, whether there is a minus, whether digits were left out. -/
def rf (l : List UInt8) : Option (Nat × Int × Bool × Bool) :=
  match l with
  | [] => none
  | c :: r => if c = 45 then (rfBody r).map fun x => (x.1, x.2.1, true, x.2.2) else (rfBody (c :: r)).map fun x => (x.1, x.2.1, false, x.2.2)

/-- A byte that stands in a number. -/
def isNumC (c : UInt8) : Bool := isDig c || c == 46 || c == 43 || c == 45 || isExp c

/-- Of a mantissa: what bounds it. -/
structure RS.Ok (s : RS) (i : Nat) : Prop where
  nm : s.nm ≤ 19
  m : s.m < 10 ^ s.nm
  nd : s.nd ≤ i
  dp1 : -(i : Int) ≤ s.dp
  dp2 : s.dp ≤ i
  nn : s.nm ≤ s.nd

theorem RS.Ok.lim {s : RS} {i : Nat} (h : s.Ok i) (hm : s.nm < 19) : s.m ≤ 999999999999999999 := by
  have h1 := h.m
  have h2 : 10 ^ s.nm ≤ 10 ^ 18 := Nat.pow_le_pow_right (by decide) (by omega)
  have h3 : (10 : Nat) ^ 18 = 1000000000000000000 := by decide
  omega
theorem RS.Ok.lim2 {s : RS} {i : Nat} (h : s.Ok i) : s.m ≤ 9999999999999999999 := by
  have h1 := h.m
  have h2 : 10 ^ s.nm ≤ 10 ^ 19 := Nat.pow_le_pow_right (by decide) h.nm
  have h3 : (10 : Nat) ^ 19 = 10000000000000000000 := by decide
  omega

theorem RS.Ok.start : RS.zero.Ok 0 := ⟨by decide, by decide, by decide, by decide, by decide, by decide⟩

theorem RS.Ok.later {s : RS} {i : Nat} (h : s.Ok i) (k : Nat) : s.Ok (i + k) := ⟨h.nm, h.m, by have := h.nd; omega, by have := h.dp1; omega, by have := h.dp2; omega, h.nn⟩

theorem RS.Ok.of_eq {s : RS} {i j : Nat} (h : s.Ok i) (e : i = j) : s.Ok j := e ▸ h

theorem RS.Ok.digit {s : RS} {i : Nat} (h : s.Ok i) (c : UInt8) (hc : isDig c = true) : (s.digit c).Ok (i + 1) := by
  have hc2 : 48 ≤ c.toNat ∧ c.toNat ≤ 57 := of_decide_eq_true hc
  obtain ⟨h1, h2, h3, h4, h5, h6⟩ := h
  unfold RS.digit
  split
  · exact ⟨h1, h2, by simp only; omega, by simp only; omega, by simp only; omega, h6⟩
  · split
    · refine ⟨by simp only; omega, ?_, by simp only; omega, by simp only; omega, by simp only; omega, by simp only; omega⟩
      simp only
      rw [Nat.pow_succ]
      omega
    · exact ⟨h1, h2, by simp only; omega, by simp only; omega, by simp only; omega, by simp only; omega⟩

theorem RS.Ok.pt {s : RS} {i : Nat} (h : s.Ok i) : ({ s with dot := true, dp := s.nd } : RS).Ok (i + 1) := by
  obtain ⟨h1, h2, h3, h4, h5, h6⟩ := h
  exact ⟨h1, h2, by simp only; omega, by simp only; omega, by simp only; omega, h6⟩

theorem expDigit_le {e : Nat} {c : UInt8} (hc : isDig c = true) (h : e ≤ 99999) : expDigit e c ≤ 99999 := by
  have hc2 : 48 ≤ c.toNat ∧ c.toNat ≤ 57 := of_decide_eq_true hc
  unfold expDigit
  split <;> omega

end Go.Proofs.YtdabllkphibfmaaGreatDoor
