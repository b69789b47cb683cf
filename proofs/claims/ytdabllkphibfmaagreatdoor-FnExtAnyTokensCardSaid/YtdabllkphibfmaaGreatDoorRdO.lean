/- The steps of a region, one by one, in a small context: a region that draws its order and bears too much for the walk (token's number). -/
import Derived.Test.YtdabllkphibfmaaGreatDoorRdV
import Derived.Deep.RegionHeld3
namespace Go.Proofs.YtdabllkphibfmaaGreatDoor
open Go Go.RowKit
set_option linter.unusedSimpArgs false
set_option linter.unusedVariables false

theorem x_move {ev : Operand → Value} {o : Oper} {x : Operand} {v : Value} {W : World} (ho : o.op = .move x) (h : ev x = v) : (execOp ev o).run Tryz.prog W = .ok (.value v) W := by
  subst h
  simp [execOp, ho]
theorem x_assign {ev : Operand → Value} {o : Oper} {x : Operand} {v : Value} {W : World} (ho : o.op = .assign x) (h : ev x = v) : (execOp ev o).run Tryz.prog W = .ok (.value v) W := by
  subst h
  simp [execOp, ho]
theorem x_nil {ev : Operand → Value} {o : Oper} {x : Operand} {p : Addr} {W : World} (ho : o.op = .nilCheck x) (h : ev x = .pointer (some p)) : (execOp ev o).run Tryz.prog W = .ok (.value (.pointer (some p))) W := by
  simp [execOp, ho, h]
theorem x_field51 {ev : Operand → Value} {o : Oper} {x : Operand} {b k : Nat} {W : World} (ho : o.op = .fieldAddr 51 x k) (hk : k = 0 ∨ k = 1 ∨ k = 2) (h : ev x = .pointer (some ⟨b, 0, none⟩)) : (execOp ev o).run Tryz.prog W = .ok (.value (.pointer (some ⟨b, k, none⟩))) W := by
  rcases hk with rfl | rfl | rfl
  · simp [execOp, ho, h]
    go_simp
  · simp [execOp, ho, h]
    go_simp
  · simp [execOp, ho, h]
    go_simp
theorem x_field29 {ev : Operand → Value} {o : Oper} {x : Operand} {b : Nat} {W : World} (ho : o.op = .fieldAddr 29 x 4) (h : ev x = .pointer (some ⟨b, 0, none⟩)) : (execOp ev o).run Tryz.prog W = .ok (.value (.pointer (some ⟨b, 4, none⟩))) W := by
  simp [execOp, ho, h]
  go_simp
theorem x_load9 {ev : Operand → Value} {o : Oper} {x : Operand} {p : Addr} {s : ByteArray} {W : World} (ho : o.op = .load 9 x) (h : ev x = .pointer (some p)) (hc : W.cell? p = some (.string s)) : (execOp ev o).run Tryz.prog W = .ok (.value (.string s)) W := by
  simp [execOp, ho, h, hc]
  go_simp
theorem x_load3 {ev : Operand → Value} {o : Oper} {x : Operand} {p : Addr} {i : Int} {W : World} (ho : o.op = .load 3 x) (h : ev x = .pointer (some p)) (hc : W.cell? p = some (.int .i64 i)) : (execOp ev o).run Tryz.prog W = .ok (.value (.int .i64 i)) W := by
  simp [execOp, ho, h, hc]
  go_simp
theorem x_slice {ev : Operand → Value} {o : Oper} {x l h : Operand} {s : ByteArray} {i j : Nat} {W : World} (ho : o.op = .slice 9 x (some l) (some h) none) (hx : ev x = .string s) (hl : ev l = .int .i64 i) (hh : ev h = .int .i64 j) (hij : (i : Int) ≤ j) (hj : (j : Int) ≤ s.size) : (execOp ev o).run Tryz.prog W = .ok (.value (.string (s.extract i j))) W := by
  simp [execOp, ho, hx, hl, hh]
  go_simp
theorem x_extract {ev : Operand → Value} {o : Oper} {x : Operand} {k : Nat} {vs : Array Value} {W : World} {v : Value} (ho : o.op = .extract x k) (h : ev x = .tuple vs) (hk : vs[k]? = some v) : (execOp ev o).run Tryz.prog W = .ok (.value v) W := by
  simp [execOp, ho, h, hk]
  go_simp
theorem x_alloc82 {ev : Operand → Value} {o : Oper} {W : World} (ho : o.op = .alloc 82) : (execOp ev o).run Tryz.prog W = .ok (.value (.pointer (some ⟨W.heap.size, 0, none⟩))) (W.alloc (.cells zeroVal 82)) := by
  simp [execOp, ho]
  go_simp
  rfl
theorem x_call33 {a : Act} {o : Oper} {x : Operand} {s : ByteArray} {W : World} (ho : o.op = .call { callee := .value (.func 33), args := #[x], argTypes := #[9] }) (h : a.eval x = .string s) : (execOp a.eval o).run Tryz.prog W = .ok (.enter 33 #[.string s]) W := by
  simp [execOp, ho, h]
  go_simp
  refine Eq.trans ?_ h
  cases x <;> simp [Act.eval]

/-- An operation is taken first; where its value goes is said. -/
theorem takeH {P : Program} {ops : Array Oper} {Q : Exit → Act → World → Prop} {S : World → Prop} {i : Nat} {oi : Oper} (d : Option Tmp) (v : Value) {fuel : Nat} {listed : Array Bool} {a : Act} {w : World} (hi : ops[i]? = some oi) (hd : oi.dst = d)
    (hs : Region.noSelect ops = true) (hf : Region.free .any ops listed i = true) (hr : (Region.ready .any ops listed).contains i = true)
    (hQ : ∀ c a w, Q (.panic c) (a.put d v) w → Q (.panic c) a w) (hw : Region.wanted oi (yielded ops a.tmps) = true) (hy : ∀ W, S W → (execOp a.eval oi).run P W = .ok (.value v) W) (hS : S w)
    (h : wpAnyH P .any ops Q S fuel (listed.setIfInBounds i true) (a.put d v) w) : wpAnyH P .any ops Q S (fuel + 1) listed a w := by
  subst hd
  exact wpAnyH_take hi hs hf hr hQ (Or.inl ⟨hw, hy⟩) hS h

/-- An operation that gives a value, as one step of a region that draws. -/
theorem step_value {P : Program} {ops : Array Oper} {o : Oper} {a : Act} {w w' : World} {v : Value} {K : Act → World → Prop} {Q : Exit → Act → World → Prop} {E : Prop} (hg : o.guard = none) (d : Option Tmp) (hd : o.dst = d) (hr : (execOp a.eval o).run P w = .ok (.value v) w') (h : K (a.put d v) w') :
    if Region.wanted o (yielded ops a.tmps) = true then Oper.wp P o a w K Q else E := by
  subst hd
  have hw : Region.wanted o (yielded ops a.tmps) = true := by simp [Region.wanted, hg]
  rw [if_pos hw]
  unfold Oper.wp
  rw [hr]
  exact h

/-- A call, as one step of a region that draws. -/
theorem step_call {P : Program} {ops : Array Oper} {o : Oper} {a : Act} {w w' : World} {f : FuncId} {args : Array Value} {K : Act → World → Prop} {Q : Exit → Act → World → Prop} {E : Prop} (hg : o.guard = none) (d : Option Tmp) (hd : o.dst = d) (hr : (execOp a.eval o).run P w = .ok (.enter f args) w') {R : Value → World → Prop} (hc : Calls P f args w' fun e w2 => ∃ v, e = .returned v ∧ R v w2) (h : ∀ v w2, R v w2 → K (a.put d v) w2) :
    if Region.wanted o (yielded ops a.tmps) = true then Oper.wp P o a w K Q else E := by
  subst hd
  have hw : Region.wanted o (yielded ops a.tmps) = true := by simp [Region.wanted, hg]
  rw [if_pos hw]
  unfold Oper.wp
  rw [hr]
  refine hc.mono ?_
  rintro e w2 ⟨v, rfl, hR⟩
  exact h v w2 hR

/-- A whole variable is stored. -/
theorem step_storeH {P : Program} {ops : Array Oper} {o : Oper} {a : Act} {w : World} {K : Act → World → Prop} {Q : Exit → Act → World → Prop} {E : Prop} (hg : o.guard = none) (hd : o.dst = none) (ty : TypeId) (x y : Operand) (ho : o.op = .store ty x y)
    (g : Nat) (cells : Array Value) (hx : a.eval x = .pointer (some ⟨g, 0, none⟩)) (hy : a.eval y = .agg cells)
    (t : TypeId) (old : Array Value) (hgw : w.heap[g]? = some (.cells old t (0, 0))) (hi : (P.info? ty).map (·.size) = some cells.size)
    (hold : old.size = cells.size) (h1 : cells.all (·.oneCell') = true)
    (hK : K a (w.setRow g cells)) : if Region.wanted o (yielded ops a.tmps) = true then Oper.wp P o a w K Q else E :=
  step_store_row hg ty x y ho g cells hx hy t old hgw hi hold h1 (by rw [hd]; exact hK)

end Go.Proofs.YtdabllkphibfmaaGreatDoor
