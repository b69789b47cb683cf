/- A value of the law as a tree, and the cells that it stands in. -/
import Derived.Test.YtpkfdbhpmhahaaaGreatDoorGa
import Derived.Deep.MidRow
import Derived.Deep.WholeRow
import Derived.Laws.Tables
namespace Go.Proofs.YtpkfdbhpmhahaaaGreatDoor
open Go Go.RowKit
set_option linter.unusedSimpArgs false
set_option linter.unusedVariables false

/-- A value: kind, texts, numbers, bytes, and the parts with their names. -/
inductive T where
  | mk (K : Int) (t m : ByteArray) (n b h : Int) (bs : List UInt8) (ks : List (ByteArray × T))

theorem T.ind {P : T → Prop} (h : ∀ K t m n b h bs ks, (∀ e ∈ ks, P e.2) → P (.mk K t m n b h bs ks)) (x : T) : P x :=
  T.rec (motive_1 := P) (motive_2 := fun l => ∀ e ∈ l, P e.2) (motive_3 := fun e => P e.2) (fun K t m n b h' bs ks ih => h K t m n b h' bs ks ih)
    (fun e he => absurd he (by simp))
    (fun hd tl h1 h2 e he => by
      rcases List.mem_cons.1 he with rfl | h3
      · exact h1
      · exact h2 e h3)
    (fun a b h => h) x

mutual
/-- How many values it holds, itself too. -/
def T.nodes : T → Nat
  | .mk _ _ _ _ _ _ _ ks => 1 + nodesL ks
def nodesL : List (ByteArray × T) → Nat
  | [] => 0
  | (_, x) :: r => x.nodes + nodesL r
end
theorem T.nodes_pos : ∀ x : T, 1 ≤ x.nodes
  | .mk _ _ _ _ _ _ _ ks => by unfold T.nodes; omega
theorem nodesL_length : ∀ ks : List (ByteArray × T), ks.length ≤ nodesL ks
  | [] => Nat.zero_le _
  | (_, x) :: r => by
    have h1 := nodesL_length r
    have h2 := x.nodes_pos
    simp only [nodesL, List.length_cons]
    omega
theorem nodesL_mem : ∀ (ks : List (ByteArray × T)) (e : ByteArray × T), e ∈ ks → e.2.nodes ≤ nodesL ks
  | [], e, h => absurd h (by simp)
  | (a, x) :: r, e, h => by
    simp only [nodesL]
    rcases List.mem_cons.1 h with rfl | h
    · simp
    · have := nodesL_mem r e h
      omega

def I64 (n : Int) : Prop := -9223372036854775808 ≤ n ∧ n ≤ 9223372036854775807

/-- The tree stands in the cells of v, below block L. -/
inductive VAt (w : World) (L : Nat) : T → Value → Prop
  | mk (K : Int) (t m : ByteArray) (n b h : Int) (bs : List UInt8) (ks : List (ByteArray × T)) (ba ka : Option Addr) (bn bc kn kc : Nat) (g o kb ko : Nat) (C : Nat → Array Value)
    (hK : I64 K) (hn : I64 n) (hb : U64 b) (hh : U64 h) (ht : t.size ≤ 9223372036854775807) (hm : m.size ≤ 9223372036854775807)
    (hbn : bn = bs.length) (hbl : bn ≤ 9223372036854775807) (hbc : bn ≤ bc) (hbs : bs ≠ [] → ba = some ⟨g, o, none⟩ ∧ g < L ∧ w.rangeAt g o (Lib.byteCells bs)) (hba : ba = none → bc = 0)
    (hkn : kn = ks.length) (hkl : kn ≤ 9223372036854775807) (hkc : kn ≤ kc) (hka : ks ≠ [] → ka = some ⟨kb, ko, none⟩ ∧ kb < L)
    (hks : ∀ i (hi : i < ks.length), w.rangeAt kb (ko + i * 9) (.string (ks[i].1) :: (C i).toList)) (hkt : ∀ i (hi : i < ks.length), (ks[i].1).size ≤ 9223372036854775807)
    (hsub : ∀ i (hi : i < ks.length), VAt w L (ks[i].2) (.agg (C i))) :
    VAt w L (.mk K t m n b h bs ks) (.agg (vcells K t m n b h (.slice ba bn bc) (.slice ka kn kc)))

theorem rangeAt_kept {w w' : World} {b o : Nat} {cs : List Value} (h : w.rangeAt b o cs) (hk : w'.heap[b]? = w.heap[b]?) : w'.rangeAt b o cs := fun j v hv =>
  (World.cell?_of_block (a := ⟨b, o + j, none⟩) hk).trans (h j v hv)

theorem VAt.kept {w w' : World} {L L' : Nat} (hL : L ≤ L') (hk : ∀ k, k < L → w'.heap[k]? = w.heap[k]?) {t : T} {v : Value} (h : VAt w L t v) : VAt w' L' t v := by
  induction h with
  | mk K t m n b h bs ks ba ka bn bc kn kc g o kb ko C hK hn hb hh ht hm hbn hbl hbc hbs hba hkn hkl hkc hka hks hkt hsub ih =>
    refine .mk K t m n b h bs ks ba ka bn bc kn kc g o kb ko C hK hn hb hh ht hm hbn hbl hbc (fun e => ?_) hba hkn hkl hkc (fun e => ⟨(hka e).1, Nat.lt_of_lt_of_le (hka e).2 hL⟩) (fun i hi => ?_) hkt ih
    · obtain ⟨h1, h2, h3⟩ := hbs e
      exact ⟨h1, Nat.lt_of_lt_of_le h2 hL, rangeAt_kept h3 (hk _ h2)⟩
    · have hne : ks ≠ [] := by rintro rfl; simp at hi
      exact rangeAt_kept (hks i hi) (hk _ (hka hne).2)
theorem VAt.stays {w w' : World} {L B : Nat} {t : T} {v : Value} (h : VAt w L t v) (hb : Below B w w') (hL : L ≤ B) : VAt w' L t v := h.kept (Nat.le_refl _) fun k hk => hb.block k (by omega)

/-- Every kind in it is known. -/
inductive KnownT : T → Prop
  | mk {K : Int} {t m : ByteArray} {n b h : Int} {bs : List UInt8} {ks : List (ByteArray × T)} (hK : Known K) (hs : K = 3 ∨ K = 4 ∨ K = 15 → ∀ e ∈ ks, KnownT e.2) : KnownT (.mk K t m n b h bs ks)
theorem KnownT.leaf {K : Int} {t m : ByteArray} {n b h : Int} {bs : List UInt8} {ks : List (ByteArray × T)} (hK : Known K) (h3 : K ≠ 3) (h4 : K ≠ 4) (h15 : K ≠ 15) : KnownT (.mk K t m n b h bs ks) :=
  .mk hK fun h' => by omega

theorem info26 : (Tryz.prog.info? 26).map (·.size) = some 8 := by kernel_rfl
theorem info33 : (Tryz.prog.info? 33).map (·.size) = some 9 := by kernel_rfl

theorem vcells_one (K : Int) (t m : ByteArray) (n b h : Int) (ba ka : Option Addr) (bn bc kn kc : Nat) : (vcells K t m n b h (.slice ba bn bc) (.slice ka kn kc)).all (·.oneCell') = true := by
  simp [vcells, Value.oneCell']
theorem VAt.size {w : World} {L : Nat} {t : T} {cs : Array Value} (h : VAt w L t (.agg cs)) : cs.size = 8 ∧ cs.all (·.oneCell') = true := by
  generalize hv : Value.agg cs = v at h
  cases h
  cases hv
  exact ⟨rfl, vcells_one _ _ _ _ _ _ _ _ _ _ _ _⟩

/-- A struct goes into the block that was just made for it. -/
theorem wpList_store_new {P : Program} {ops : Array Oper} {rest : List Oper} {o : Oper} {a : Act} {Q : Exit → Act → World → Prop} (hgd : o.guard = none) (ty : TypeId) (x y : Operand) (ho : o.op = .store ty x y) (hd : o.dst = none) (w : World) (c cells : Array Value) (t : TypeId)
    (hx : a.eval x = .pointer (some ⟨w.heap.size, 0, none⟩)) (hy : a.eval y = .agg cells) (hi : (P.info? ty).map (·.size) = some cells.size) (hold : c.size = cells.size) (h1 : cells.all (·.oneCell') = true)
    (h : wpList P ops Q rest a (w.alloc (.cells cells t))) : wpList P ops Q (o :: rest) a (w.alloc (.cells c t)) :=
  wpList_store_row hgd ty x y ho w.heap.size cells hx hy t c (heap_alloc_new w _) hi hold h1 (by rw [World.setRow_alloc_new, hd]; exact h)

theorem kid_info {nm : ByteArray} {cv : Array Value} (h : cv.size = 8) : (Tryz.prog.info? 33).map (·.size) = some (Value.string nm :: cv.toList).length := by
  rw [info33]; simp [h]
theorem kid_info2 {nm : ByteArray} {cv : Array Value} (h : cv.size = 8) : (Tryz.prog.info? 33).map (·.size) = some (Value.string nm :: cv.toList).toArray.size := by
  rw [info33]; simp [h]
theorem kid_size {nm : ByteArray} {cv : Array Value} (h : cv.size = 8) : 9 = (Value.string nm :: cv.toList).toArray.size := by
  simp [h]
theorem kid_one {nm : ByteArray} {cv : Array Value} (h : cv.all (·.oneCell') = true) : (Value.string nm :: cv.toList).toArray.all (·.oneCell') = true :=
  all_oneCell_toArray fun v hv => by
    rcases List.mem_cons.1 hv with rfl | h2
    · rfl
    · exact (Array.all_eq_true_iff_forall_mem.1 h) v (by simpa using h2)

theorem kid_name {w : World} {g : Nat} {nm : ByteArray} {cv : Array Value} {T : TypeId} (h : w.heap[g]? = some (.cells (Value.string nm :: cv.toList).toArray T (0, 0))) : w.cell? ⟨g, 0, none⟩ = some (.string nm) := by
  simp [World.cell?, h]
theorem kid_range {w : World} {g : Nat} {nm : ByteArray} {cv : Array Value} {T : TypeId} (h : w.heap[g]? = some (.cells (Value.string nm :: cv.toList).toArray T (0, 0))) : w.rangeAt g 1 cv.toList := fun j v hv => by
  have e : (Value.string nm :: cv.toList)[1 + j]? = some v := by rw [Nat.add_comm]; exact hv
  simp [World.cell?, h]
  simpa using e

theorem x_load_arr {P : Program} {ev : Operand → Value} {o : Oper} {W : World} (ty : TypeId) (x : Operand) (b off : Nat) (cv : Array Value) (d : TypeDesc) (ho : o.op = .load ty x) (hx : ev x = .pointer (some ⟨b, off, none⟩)) (hc : W.rangeAt b off cv.toList)
    (hu : P.underlying ty = some d) (hd : d.isRow = true) (hi : (P.info? ty).map (·.size) = some cv.toList.length) : (execOp ev o).run P W = .ok (.value (.agg cv)) W := by
  unfold execOp
  simp only [ho, hx, Instr.loadAt, Instr.sureAddr, Sem.run_bind, Sem.run_pure, Result.andThen_ok, run_loadVar_mid W b off ty cv.toList d hc hu hd hi, Array.toArray_toList]

theorem cells8 {w : World} {r : Nat} {K : Int} {t m : ByteArray} {n b h : Int} {bv kv : Value} {T : TypeId} (hh : w.heap[r]? = some (.cells (vcells K t m n b h bv kv) T (0, 0))) :
    w.cell? ⟨r, 0, none⟩ = some (.int .i64 K) ∧ w.cell? ⟨r, 1, none⟩ = some (.string t) ∧ w.cell? ⟨r, 2, none⟩ = some (.string m) ∧ w.cell? ⟨r, 3, none⟩ = some (.int .i64 n) ∧ w.cell? ⟨r, 4, none⟩ = some (.int .u64 b) ∧ w.cell? ⟨r, 5, none⟩ = some (.int .u64 h) ∧ w.cell? ⟨r, 6, none⟩ = some bv ∧ w.cell? ⟨r, 7, none⟩ = some kv ∧ (∀ o, w.frozen? ⟨r, o, none⟩ = false) := by
  refine ⟨?_, ?_, ?_, ?_, ?_, ?_, ?_, ?_, fun o => ?_⟩ <;> simp [World.cell?, World.frozen?, hh, vcells]

end Go.Proofs.YtpkfdbhpmhahaaaGreatDoor
