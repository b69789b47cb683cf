/- One byte read, or the text's end: one contract for both; what comes of it when the counter goes one back. -/
import Derived.Test.YtdabllkphibfmaaGreatDoorLit
namespace Go.Proofs.YtdabllkphibfmaaGreatDoor
open Go Go.RowKit

/-- Behind a read at q: the byte x, or (eb) the end; p: the counter. -/
def Sc.Got (s : Sc) (g : Option Nat) (q : Nat) (x : UInt8) (eb : Bool) (p : Nat) (w : World) : Prop :=
  (eb = false ∧ (∃ hq : q < s.T.length, s.T[q]'hq = x) ∧ p = q % 512 + 1 ∧ s.St g (q + 1) p w) ∨ (eb = true ∧ q = s.T.length ∧ x = 0 ∧ p = 0 ∧ s.St g q 0 w)

/-- The error beside it. -/
def EndV (s : Sc) : Bool → Value
  | true => EOFv s.ea
  | false => .nilIface

theorem Sc.St.read {s : Sc} {g : Option Nat} {q p : Nat} {w : World} (h : s.St g q p w) (h0 : 0 < q) (hq : q ≤ s.T.length) :
    Calls Tryz.prog 47 #[.pointer (some ⟨s.j, 0, none⟩)] w fun e w' => ∃ x eb p', e = .returned (.tuple #[.int .u8 ((x : UInt8).toNat : Int), EndV s eb]) ∧ s.Got g q x eb p' w' ∧ Fr (s.S g) w w' := by
  rcases Nat.lt_or_ge q s.T.length with hlt | hge
  · refine (h.next1 h0 hlt).mono ?_
    rintro e w' ⟨rfl, h1, h2⟩
    exact ⟨_, false, _, rfl, .inl ⟨rfl, ⟨hlt, rfl⟩, rfl, h1⟩, h2⟩
  · have hqe : q = s.T.length := by omega
    refine (h.end1 h0 hqe).mono ?_
    rintro e w' ⟨rfl, h1, h2⟩
    exact ⟨0, true, 0, rfl, .inr ⟨rfl, hqe, rfl, rfl, by rw [hqe]; exact h1⟩, h2⟩

theorem Sc.Got.some_st {s : Sc} {g : Option Nat} {q p : Nat} {x : UInt8} {eb : Bool} {w : World} (h : s.Got g q x eb p w) : ∃ q', s.St g q' p w ∧ p < 514 := by
  rcases h with ⟨_, _, hp, h⟩ | ⟨_, _, _, rfl, h⟩
  · exact ⟨_, h, by omega⟩
  · exact ⟨_, h, by omega⟩

theorem Sc.Got.of_heap {s : Sc} {g : Option Nat} {q p : Nat} {x : UInt8} {eb : Bool} {w w' : World} (h : s.Got g q x eb p w) (e : ∀ k, s.own g k → w'.heap[k]? = w.heap[k]?) : s.Got g q x eb p w' := by
  rcases h with ⟨h1, h2, h3, h4⟩ | ⟨h1, h2, h3, h4, h5⟩
  · exact .inl ⟨h1, h2, h3, h4.of_heap e⟩
  · exact .inr ⟨h1, h2, h3, h4, h5.of_heap e⟩

theorem Sc.Got.lt {s : Sc} {g : Option Nat} {q p : Nat} {x : UInt8} {eb : Bool} {w : World} (h : s.Got g q x eb p w) : ∀ k, s.own g k → k < w.heap.size := by
  obtain ⟨q', h, _⟩ := h.some_st
  exact h.lt

theorem Sc.Got.alloc {s : Sc} {g : Option Nat} {q p : Nat} {x : UInt8} {eb : Bool} {w : World} (h : s.Got g q x eb p w) (o : Obj) : s.Got g q x eb p (w.alloc o) :=
  h.of_heap fun k hk => Below.heap_alloc _ _ _ (h.lt k hk)

theorem Sc.Got.drewN {s : Sc} {g : Option Nat} {q p : Nat} {x : UInt8} {eb : Bool} {w : World} (h : s.Got g q x eb p w) (n : Nat) : s.Got g q x eb p (w.drewN n) :=
  h.of_heap fun _ _ => rfl

/-- errors.Is of it and io.EOF. -/
theorem Sc.isEnd (s : Sc) (eb : Bool) (w : World) : Calls Tryz.prog 49 #[EndV s eb, EOFv s.ea] w fun e w' => e = .returned (.bool eb) ∧ w = w' := by
  cases eb
  · exact is_nil _ _
  · exact is_same _ _

/-- One byte back: what is to come begins with the byte again, or is over. -/
theorem Sc.Got.back {s : Sc} {g : Option Nat} {q p : Nat} {x : UInt8} {eb : Bool} {w : World} (h : s.Got g q x eb p w) (w' : World)
    (hw : w' = w.setCell ⟨s.j, 2, none⟩ (.int .i64 ((p - 1 : Nat) : Int))) : ∃ p', s.St g q p' w' := by
  subst hw
  rcases h with ⟨_, _, rfl, h⟩ | ⟨_, _, _, rfl, h⟩
  · refine ⟨q % 512, h.back (fun c0 c1 c2 c3 hj => ?_) (fun k hk hne => Below.heap_setCell _ _ _ _ hne)⟩
    rw [heap_set hj]
    rfl
  · refine ⟨0, h.of_heap fun k hk => ?_⟩
    by_cases hkj : k = s.j
    · subst hkj
      obtain ⟨bv, ev, hj⟩ := h.js
      rw [heap_set hj]
      exact hj.symm
    · exact Below.heap_setCell _ _ _ _ hkj

/-- The scanner's counter, and the sentinel. -/
theorem Sc.Got.cells {s : Sc} {g : Option Nat} {q p : Nat} {x : UInt8} {eb : Bool} {w : World} (h : s.Got g q x eb p w) : w.cell? ⟨s.j, 2, none⟩ = some (.int .i64 p) ∧ w.frozen? ⟨s.j, 2, none⟩ = false ∧ w.cell? ⟨1, 0, none⟩ = some (EOFv s.ea) := by
  obtain ⟨q', h, _⟩ := h.some_st
  obtain ⟨bv, ev, hj⟩ := h.js
  obtain ⟨c0, c1, c2, c3, cf⟩ := cell4 hj
  exact ⟨c2, cf 2, h.eof⟩

theorem max0' (p : Nat) (hp : p < 514) (w : World) : Calls Tryz.prog 73 #[.float .f64 0, .float .f64 (fb ((p : Int) - 1))] w fun e w' => e = .returned (.float .f64 (fb ((p - 1 : Nat) : Int))) ∧ w = w' := max0 p hp w

end Go.Proofs.YtdabllkphibfmaaGreatDoor
