/- The scanner's state in memory, and what keeps it: frames, rows of bytes, the reader's block, the scanner's block. -/
import Derived.Test.YtdabllkphibfmaaGreatDoorErr
import Derived.Deep.Draws
import Derived.Lib.BufferKept
import Derived.Lib.BufferOld
import Derived.Lib.ConvBytes
import Derived.Laws.CopyOwn
import Derived.Lib.UnsafeStr
import Derived.Lib.Hide
namespace Go.Proofs.YtdabllkphibfmaaGreatDoor
open Go Go.RowKit

/-- Of what was there, only the blocks that S names may have turned. -/
structure Fr (S : Nat → Prop) (w w' : World) : Prop where
  os : w'.os = w.os
  tape : w'.tape = w.tape
  output : w'.output = w.output
  size : w.heap.size ≤ w'.heap.size
  block : ∀ k, k < w.heap.size → ¬ S k → w'.heap[k]? = w.heap[k]?

theorem Fr.refl (S : Nat → Prop) (w : World) : Fr S w w := ⟨rfl, rfl, rfl, Nat.le_refl _, fun _ _ _ => rfl⟩
theorem Fr.trans {S : Nat → Prop} {a b c : World} (h : Fr S a b) (k : Fr S b c) : Fr S a c :=
  ⟨k.os.trans h.os, k.tape.trans h.tape, k.output.trans h.output, Nat.le_trans h.size k.size, fun i hi hn => (k.block i (Nat.lt_of_lt_of_le hi h.size) hn).trans (h.block i hi hn)⟩
/-- Two steps; the second may turn, beside, what the first has made. -/
theorem Fr.trans' {S S' : Nat → Prop} {a b c : World} (h : Fr S a b) (k : Fr S' b c) (hs : ∀ i, i < a.heap.size → S' i → S i) : Fr S a c :=
  ⟨k.os.trans h.os, k.tape.trans h.tape, k.output.trans h.output, Nat.le_trans h.size k.size, fun i hi hn => (k.block i (Nat.lt_of_lt_of_le hi h.size) (fun hk => hn (hs i hi hk))).trans (h.block i hi hn)⟩
theorem Fr.mono {S S' : Nat → Prop} {a b : World} (h : Fr S a b) (hs : ∀ i, i < a.heap.size → S i → S' i) : Fr S' a b :=
  ⟨h.os, h.tape, h.output, h.size, fun i hi hn => h.block i hi (fun hk => hn (hs i hi hk))⟩
theorem Fr.drew {S : Nat → Prop} {a w : World} (h : Fr S a w) : Fr S a w.drew := ⟨h.os, h.tape, h.output, h.size, h.block⟩
theorem Fr.drewN {S : Nat → Prop} {a w : World} (h : Fr S a w) (n : Nat) : Fr S a (w.drewN n) := ⟨h.os, h.tape, h.output, h.size, h.block⟩
theorem Fr.alloc {S : Nat → Prop} {a w : World} (h : Fr S a w) (o : Obj) : Fr S a (w.alloc o) :=
  h.trans ⟨rfl, rfl, rfl, by simp, fun k hk _ => Below.heap_alloc _ _ _ hk⟩
theorem Fr.setCell {S : Nat → Prop} {a w : World} (h : Fr S a w) {p : Addr} (hp : S p.block ∨ a.heap.size ≤ p.block) (u : Value) : Fr S a (w.setCell p u) :=
  ⟨h.os, h.tape, h.output, by simpa [World.setCell] using h.size, fun k hk hn => (Below.heap_setCell _ _ _ _ (by rintro rfl; rcases hp with hp | hp; exact hn hp; omega)).trans (h.block k hk hn)⟩
theorem Fr.setRow {S : Nat → Prop} {a w : World} (h : Fr S a w) {g : Nat} (hp : S g ∨ a.heap.size ≤ g) (cs : Array Value) : Fr S a (w.setRow g cs) :=
  ⟨h.os, h.tape, h.output, by simpa [World.setRow] using h.size, fun k hk hn => (setRow_other w g k cs (by rintro rfl; rcases hp with hp | hp; exact hn hp; omega)).trans (h.block k hk hn)⟩
theorem Fr.of_below {S : Nat → Prop} {a w : World} (h : Below a.heap.size a w) : Fr S a w := ⟨h.os, h.tape, h.output, h.size, fun k hk _ => h.block k hk⟩
theorem Fr.below {S : Nat → Prop} {B : Nat} {a w : World} (h : Fr S a w) (hS : ∀ k, k < B → ¬ S k) (hB : B ≤ a.heap.size) : Below B a w :=
  ⟨h.os, h.tape, h.output, h.size, fun k hk => h.block k (by omega) (hS k hk)⟩

theorem lt_of_heap {w : World} {g : Nat} {o : Obj} (hg : w.heap[g]? = some o) : g < w.heap.size := by
  rcases Nat.lt_or_ge g w.heap.size with h' | h'
  · exact h'
  · simp [Array.getElem?_eq_none h'] at hg

/-- A row of bytes that begins with bs. -/
def Row (w : World) (g : Nat) (bs : List UInt8) : Prop := ∃ cur : Array Value, ∃ fr : Nat × Nat, w.heap[g]? = some (.cells cur 5 fr) ∧ cur.toList.take bs.length = Lib.byteCells bs

/-- A row of 512 bytes that may be written, and begins with bs. -/
def Buf (w : World) (g : Nat) (bs : List UInt8) : Prop := ∃ cur : Array Value, w.heap[g]? = some (.cells cur 5 (0, 0)) ∧ cur.size = 512 ∧ cur.toList.take bs.length = Lib.byteCells bs

theorem byteCells_length (l : List UInt8) : (Lib.byteCells l).length = l.length := by simp [Lib.byteCells]
theorem byteCells_get (l : List UInt8) (i : Nat) : (Lib.byteCells l)[i]? = (l[i]?).map fun b => Value.int .u8 b.toNat := by simp [Lib.byteCells]
theorem byteCells_take (l : List UInt8) (n : Nat) : (Lib.byteCells l).take n = Lib.byteCells (l.take n) := by simp [Lib.byteCells, List.map_take]
theorem byteCells_drop (l : List UInt8) (n : Nat) : (Lib.byteCells l).drop n = Lib.byteCells (l.drop n) := by simp [Lib.byteCells, List.map_drop]
theorem byteCells_oneCell (l : List UInt8) : ∀ v ∈ Lib.byteCells l, v.oneCell' = true := by
  intro v hv
  simp only [Lib.byteCells, List.mem_map] at hv
  obtain ⟨b, _, rfl⟩ := hv
  rfl

theorem row_cell {w : World} {g : Nat} {cur : Array Value} {fr : Nat × Nat} {e : TypeId} {bs : List UInt8} (h : w.heap[g]? = some (.cells cur e fr)) (ht : cur.toList.take bs.length = Lib.byteCells bs) (i : Nat) (hi : i < bs.length) :
    w.cell? ⟨g, i, none⟩ = some (.int .u8 (bs[i]'hi).toNat) := by
  have h2 : (cur.toList.take bs.length)[i]? = (Lib.byteCells bs)[i]? := by rw [ht]
  rw [byteCells_get, List.getElem?_take, if_pos hi, List.getElem?_eq_getElem hi] at h2
  simp [World.cell?, h]
  simpa using h2

theorem Row.cell {w : World} {g : Nat} {bs : List UInt8} (h : Row w g bs) (i : Nat) (hi : i < bs.length) : w.cell? ⟨g, i, none⟩ = some (.int .u8 (bs[i]'hi).toNat) := by
  obtain ⟨cur, fr, h1, h2⟩ := h
  exact row_cell h1 h2 i hi
theorem Buf.cell {w : World} {g : Nat} {bs : List UInt8} (h : Buf w g bs) (i : Nat) (hi : i < bs.length) : w.cell? ⟨g, i, none⟩ = some (.int .u8 (bs[i]'hi).toNat) := by
  obtain ⟨cur, h1, _, h2⟩ := h
  exact row_cell h1 h2 i hi
theorem Row.of_heap {w w' : World} {g : Nat} {bs : List UInt8} (h : Row w g bs) (e : w'.heap[g]? = w.heap[g]?) : Row w' g bs := by
  obtain ⟨cur, fr, h1, h2⟩ := h
  exact ⟨cur, fr, e.trans h1, h2⟩
theorem Buf.of_heap {w w' : World} {g : Nat} {bs : List UInt8} (h : Buf w g bs) (e : w'.heap[g]? = w.heap[g]?) : Buf w' g bs := by
  obtain ⟨cur, h1, h2⟩ := h
  exact ⟨cur, e.trans h1, h2⟩
theorem Buf.nil {w : World} {g : Nat} {bs : List UInt8} (h : Buf w g bs) : Buf w g [] := by
  obtain ⟨cur, h1, h2, _⟩ := h
  exact ⟨cur, h1, h2, rfl⟩

/-- The cells of a block of known cells. -/
theorem cell3 {w : World} {r : Nat} {x y z : Value} {T : TypeId} (h : w.heap[r]? = some (.cells #[x, y, z] T (0, 0))) :
    w.cell? ⟨r, 0, none⟩ = some x ∧ w.cell? ⟨r, 1, none⟩ = some y ∧ w.cell? ⟨r, 2, none⟩ = some z ∧ (∀ o, w.frozen? ⟨r, o, none⟩ = false) := by
  refine ⟨by simp [World.cell?, h], by simp [World.cell?, h], by simp [World.cell?, h], fun o => by simp [World.frozen?, h]⟩
theorem cell4 {w : World} {r : Nat} {x y z v : Value} {T : TypeId} (h : w.heap[r]? = some (.cells #[x, y, z, v] T (0, 0))) :
    w.cell? ⟨r, 0, none⟩ = some x ∧ w.cell? ⟨r, 1, none⟩ = some y ∧ w.cell? ⟨r, 2, none⟩ = some z ∧ w.cell? ⟨r, 3, none⟩ = some v ∧ (∀ o, w.frozen? ⟨r, o, none⟩ = false) := by
  refine ⟨by simp [World.cell?, h], by simp [World.cell?, h], by simp [World.cell?, h], by simp [World.cell?, h], fun o => by simp [World.frozen?, h]⟩
theorem heap_set {w : World} {r o : Nat} {c : Array Value} {T : TypeId} {v : Value} (h : w.heap[r]? = some (.cells c T (0, 0))) : (w.setCell ⟨r, o, none⟩ v).heap[r]? = some (.cells (c.setIfInBounds o v) T (0, 0)) := by
  simp [World.setCell, Array.getElem?_modify, h]
theorem heap_set_ne {w : World} {r k o : Nat} {v : Value} (h : k ≠ r) : (w.setCell ⟨r, o, none⟩ v).heap[k]? = w.heap[k]? := Below.heap_setCell _ _ _ _ h

end Go.Proofs.YtdabllkphibfmaaGreatDoor
