/- What a string's scan keeps, round for round. -/
import Derived.Test.YtdabllkphibfmaaGreatDoorU4
import Derived.Test.YtdabllkphibfmaaGreatDoorShelf
namespace Go.Proofs.YtdabllkphibfmaaGreatDoor
open Go Go.RowKit

theorem Fr.then_below {S : Nat → Prop} {a b c : World} (h : Fr S a b) (k : Below a.heap.size b c) : Fr S a c :=
  ⟨k.os.trans h.os, k.tape.trans h.tape, k.output.trans h.output, Nat.le_trans h.size k.size, fun i hi hn => (k.block i hi).trans (h.block i hi hn)⟩

theorem isBuffer_of {B b : Nat} {bs : List Value} {w w' : World} (h : Lib.IsBuffer 107 5 B b bs w) (hf : ∀ k, B ≤ k → k < w.heap.size → w'.heap[k]? = w.heap[k]?) : Lib.IsBuffer 107 5 B b bs w' := by
  have hlt := h.lt
  obtain ⟨h1, v, lr, h2, h3, h4⟩ := h
  refine ⟨h1, v, lr, (hf b h1 hlt).trans h2, ?_, h4⟩
  obtain ⟨h5, h6⟩ := h3
  refine ⟨h5, ?_⟩
  rcases h6 with h6 | ⟨g, cap, cur, hv, hg, hh, r⟩
  · exact .inl h6
  · exact .inr ⟨g, cap, cur, hv, hg, (hf g hg (lt_of_heap hh)).trans hh, r⟩

/-- The state of a string's scan: acc is written, q bytes of the text are behind; what is still to come ends as E. -/
structure Sc.Str (s : Sc) (g : Option Nat) (w : World) (E : StrEnd) (q : Nat) (acc : List UInt8) (wx : World) : Prop where
  q0 : 0 < q
  qn : q ≤ s.T.length
  st : ∃ p, s.St g q p wx
  buf : Lib.IsBuffer 107 5 w.heap.size w.heap.size (Lib.byteCells acc) wx
  len : acc.length ≤ q
  run : ∃ f, strRun f acc (s.T.drop q) = E
  fr : Fr (s.S g) w wx

theorem Sc.own_of_S {s : Sc} {g : Option Nat} {k : Nat} (h : s.S g k) : s.own g k := by
  rcases h with h | h | h
  · exact .inr (.inr (.inl h))
  · exact .inr (.inr (.inr (.inl h)))
  · exact .inr (.inr (.inr (.inr h)))

/-- A read keeps the buffer. -/
theorem buf_read {s : Sc} {g : Option Nat} {q p : Nat} {w wx w' : World} {bs : List Value} (hl : s.St g q p w) (h : Lib.IsBuffer 107 5 w.heap.size w.heap.size bs wx) (hf : Fr (s.S g) wx w') : Lib.IsBuffer 107 5 w.heap.size w.heap.size bs w' :=
  isBuffer_of h fun k hk hk2 => hf.block k hk2 fun hS => by have := hl.lt k (Sc.own_of_S hS); omega

/-- A write keeps the scanner. -/
theorem st_below {s : Sc} {g : Option Nat} {q p q' p' : Nat} {w wx w' : World} (hl : s.St g q p w) (h : s.St g q' p' wx) (hb : Below w.heap.size wx w') : s.St g q' p' w' :=
  h.of_heap fun k hk => hb.block k (hl.lt k hk)

theorem strRun_more {f : Nat} {acc : List UInt8} {l : List UInt8} {E : StrEnd} {x r : List UInt8} (h : strRun f acc l = E) (hE : E ≠ .out) (hs : strStep l = .more x r) : ∃ f, strRun f (acc ++ x) r = E := by
  cases f with
  | zero => simp [strRun] at h; exact absurd h.symm hE
  | succ f => simp only [strRun, hs] at h; exact ⟨f, h⟩
theorem strRun_done {f : Nat} {acc : List UInt8} {l : List UInt8} {E : StrEnd} {r : List UInt8} (h : strRun f acc l = E) (hE : E ≠ .out) (hs : strStep l = .done r) : E = .ok acc r := by
  cases f with
  | zero => simp [strRun] at h; exact absurd h.symm hE
  | succ f => simp only [strRun, hs] at h; exact h.symm
theorem strRun_err {f : Nat} {acc : List UInt8} {l : List UInt8} {E : StrEnd} (h : strRun f acc l = E) (hE : E ≠ .out) (hs : strStep l = .err) : E = .err := by
  cases f with
  | zero => simp [strRun] at h; exact absurd h.symm hE
  | succ f => simp only [strRun, hs] at h; exact h.symm
theorem strRun_out {f : Nat} {acc : List UInt8} {l : List UInt8} {E : StrEnd} (h : strRun f acc l = E) (hE : E ≠ .out) (hs : strStep l = .out) : False := by
  cases f with
  | zero => simp [strRun] at h; exact absurd h.symm hE
  | succ f => simp only [strRun, hs] at h; exact hE h.symm

theorem byteCells_append (a b : List UInt8) : Lib.byteCells a ++ Lib.byteCells b = Lib.byteCells (a ++ b) := by simp [Lib.byteCells]

/-- A round's end: what was read, then what was written. -/
theorem Sc.Str.round {s : Sc} {g : Option Nat} {q0 p0 : Nat} {w : World} (hL : s.St g q0 p0 w) {E : StrEnd} {q q' p' : Nat} {acc x : List UInt8} {wr w1 w2 : World} (hz : 0 < q) (hfr : Fr (s.S g) w wr) (hlen : acc.length ≤ q)
    (h4 : s.St g q' p' w1) (h5 : Fr (s.S g) wr w1) (hb2 : Lib.IsBuffer 107 5 w.heap.size w.heap.size (Lib.byteCells acc ++ Lib.byteCells x) w2) (hbel : Below w.heap.size w1 w2) (hq : q + x.length ≤ q') (hq' : q' ≤ s.T.length)
    (hrun : ∃ f, strRun f (acc ++ x) (s.T.drop q') = E) : s.Str g w E q' (acc ++ x) w2 :=
  ⟨by omega, hq', ⟨p', st_below hL h4 hbel⟩, by rw [← byteCells_append]; exact hb2, by simp; omega, hrun, (hfr.trans h5).then_below hbel⟩

/-- How a string's scan ends. -/
def Sc.StrPost (s : Sc) (g : Option Nat) (w : World) (p0 : Nat) : StrEnd → Ending → World → Prop
  | .ok str r, e, w' => ∃ b, e = .returned (.tuple #[.pointer (some ⟨b, 0, none⟩), .nilIface]) ∧ w.heap.size ≤ b ∧ w'.heap[b]? = some (.cells #[.int .u8 9, .iface 9 (.string ⟨str.toArray⟩), .int .i64 p0] 97 (0, 0)) ∧
      (∃ q p, s.T.drop q = r ∧ q ≤ s.T.length ∧ 0 < q ∧ s.St g q p w') ∧ Fr (s.S g) w w'
  | .err, e, w' => (∃ a, e = .returned (.tuple #[.pointer none, .iface 150 (.pointer (some a))])) ∧ Fr (s.S g) w w'
  | .out, _, _ => True

end Go.Proofs.YtdabllkphibfmaaGreatDoor
