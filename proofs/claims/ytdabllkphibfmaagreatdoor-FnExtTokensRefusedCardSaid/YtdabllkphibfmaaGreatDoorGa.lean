/- Contracts of errors.Is at what the scanner hands it (nil, and the sentinel itself), of errors.New, of isWhiteSpace and its kin. -/
import Derived.Test.YtdabllkphibfmaaGreatDoorProg
import Derived.WalkKit
import Derived.LaidEql
import Derived.Stop.Asserts
import Derived.RowKitTokens
import Derived.Deep.Draws
import Derived.Lib.BufferKept
import Derived.Lib.BufferOld
import Derived.Lib.ConvBytes
import Derived.Laws.CopyOwn
import Derived.Lib.UnsafeStr
import Derived.Lib.Hide
import Derived.Deep.QuietTactic
import Derived.BigQuiet
import Derived.StillTailTactics
import Derived.Deep.RegionWith
import Derived.Deep.RegionHeld3
import Derived.BigRegion
namespace Go.Proofs.YtdabllkphibfmaaGreatDoor
open Go Go.RowKit Go.Extern.Stop Go.Stop Go.Extern

theorem isTypeOf (v : Value) (w : World) : (Extern.ReflectliteType.typeOf #[.iface 150 v]).run Tryz.prog w = .ok (.iface 162 (.agg #[.pointer (some ⟨20, 150, none⟩)])) w := by kernel_rfl
def cmpFn : Array Value → Sem Value := Extern.ReflectliteType.method fun t => do Extern.Rtype.noPackHeld "Comparable" t; pure (.bool (← typeInfo t).comparable)
theorem isComparable (w : World) : (cmpFn #[.agg #[.pointer (some ⟨20, 150, none⟩)]]).run Tryz.prog w = .ok (.bool true) w := by kernel_rfl
theorem isMethodComparable (v : Value) (w : World) : (Go.method 386 162 v "Comparable").run Tryz.prog w = .ok (171, v) w := by kernel_rfl
theorem isComp : (Tryz.prog.info? 150).map (·.comparable) = some true := by kernel_rfl
theorem isSize : (Tryz.prog.info? 152).map (·.size) = some 1 := by kernel_rfl

set_option maxRecDepth 100000 in
/-- errors.Is(x, x), x a pointer to an errors.errorString. -/
theorem is_same (a : Addr) (w : World) :
    Calls Tryz.prog 49 #[.iface 150 (.pointer (some a)), .iface 150 (.pointer (some a))] w fun e w' => e = .returned (.bool true) ∧ w = w' := by
  obtain ⟨i, hi, hcmp⟩ := Option.map_eq_some_iff.1 isComp
  obtain ⟨j, hj, hjs⟩ := Option.map_eq_some_iff.1 isSize
  have h8 := @run_callFunc_extern Tryz.prog 66 _ Extern.ReflectliteType.typeOf Tryz.func66 (by kernel_rfl) (by kernel_rfl) (by kernel_rfl) (by kernel_rfl)
  have h32 := @run_callFunc_extern Tryz.prog 171 _ cmpFn Tryz.func171 (by kernel_rfl) (by kernel_rfl) (by kernel_rfl) (by kernel_rfl)
  have tT := isTypeOf
  have cT := isComparable
  have mR := isMethodComparable
  have heq := run_eql_iface_ptr_same (P := Tryz.prog) w a Tryz.underlying57 Tryz.underlying150 hi hcmp hj
  go_enter Tryz.func49, Tryz.ntmps49
  go_wp2
  refine wp_loop_rounds 1 ?_
  rw [rounds_succ]
  go_wp2
  go_ret
  exact ⟨rfl, rfl⟩

/-- errors.Is(nil, x). -/
theorem is_nil (b : Addr) (w : World) :
    Calls Tryz.prog 49 #[.nilIface, .iface 150 (.pointer (some b))] w fun e w' => e = .returned (.bool false) ∧ w = w' := by
  have hn := run_eql_iface_nil_left (P := Tryz.prog) w 150 (.pointer (some b)) Tryz.underlying57
  go_enter Tryz.func49, Tryz.ntmps49
  go_wp2
  go_ret
  exact ⟨rfl, rfl⟩

/-- errors.New. -/
theorem errors_new (s : ByteArray) (w : World) :
    Calls Tryz.prog 54 #[.string s] w fun e w' => e = .returned (.iface 150 (.pointer (some ⟨w.heap.size, 0, none⟩))) ∧ w.alloc (.cells #[.string s] 152) = w' := by
  go_enter Tryz.func54, Tryz.ntmps54
  go_wp2
  go_ret
  exact ⟨rfl, rfl⟩

theorem isWs (c : Int) (w : World) :
    Calls Tryz.prog 48 #[.int .u8 c] w fun e w' => e = .returned (.bool (c == 32 || c == 9 || c == 13 || c == 10)) ∧ w = w' := by
  go_enter Tryz.func48, Tryz.ntmps48
  go_wp2
  all_goals go_ret
  all_goals first | exact ⟨rfl, rfl⟩ | (simp [*]; done)

theorem isDigit (c : Int) (w : World) :
    Calls Tryz.prog 51 #[.int .u8 c] w fun e w' => e = .returned (.bool (decide (48 ≤ c) && decide (c ≤ 57))) ∧ w = w' := by
  go_enter Tryz.func51, Tryz.ntmps51
  go_wp2
  all_goals go_ret
  all_goals first | exact ⟨rfl, rfl⟩ | (simp [*]; done) | (refine ⟨?_, rfl⟩; simp [*]; omega)

#print axioms is_same
end Go.Proofs.YtdabllkphibfmaaGreatDoor

/- The scanner's state in memory, and what keeps it: frames, rows of bytes, the reader's block, the scanner's block. -/
namespace Go.Proofs.YtdabllkphibfmaaGreatDoor
open Go Go.RowKit

/-- Of what was there, only the blocks that S names may have turned. -/
structure Fr (S : Nat → Prop) (w w' : World) : Prop where
  os : w'.os = w.os
  tape : w'.tape = w.tape
  output : w'.output = w.output
  size : w.heap.size ≤ w'.heap.size
  block : ∀ k, k < w.heap.size → ¬ S k → w'.heap[k]? = w.heap[k]?

theorem Fr.refl (S : Nat → Prop) (w : World) : Fr S w w := ⟨rfl, rfl, rfl, Nat.le_refl _, fun _ _ _ => rfl⟩
theorem Fr.trans {S : Nat → Prop} {a b c : World} (h : Fr S a b) (k : Fr S b c) : Fr S a c :=
  ⟨k.os.trans h.os, k.tape.trans h.tape, k.output.trans h.output, Nat.le_trans h.size k.size, fun i hi hn => (k.block i (Nat.lt_of_lt_of_le hi h.size) hn).trans (h.block i hi hn)⟩
/-- Two steps; the second may turn, beside, what the first has made. -/
theorem Fr.trans' {S S' : Nat → Prop} {a b c : World} (h : Fr S a b) (k : Fr S' b c) (hs : ∀ i, i < a.heap.size → S' i → S i) : Fr S a c :=
  ⟨k.os.trans h.os, k.tape.trans h.tape, k.output.trans h.output, Nat.le_trans h.size k.size, fun i hi hn => (k.block i (Nat.lt_of_lt_of_le hi h.size) (fun hk => hn (hs i hi hk))).trans (h.block i hi hn)⟩
theorem Fr.mono {S S' : Nat → Prop} {a b : World} (h : Fr S a b) (hs : ∀ i, i < a.heap.size → S i → S' i) : Fr S' a b :=
  ⟨h.os, h.tape, h.output, h.size, fun i hi hn => h.block i hi (fun hk => hn (hs i hi hk))⟩
theorem Fr.drew {S : Nat → Prop} {a w : World} (h : Fr S a w) : Fr S a w.drew := ⟨h.os, h.tape, h.output, h.size, h.block⟩
theorem Fr.drewN {S : Nat → Prop} {a w : World} (h : Fr S a w) (n : Nat) : Fr S a (w.drewN n) := ⟨h.os, h.tape, h.output, h.size, h.block⟩
theorem Fr.alloc {S : Nat → Prop} {a w : World} (h : Fr S a w) (o : Obj) : Fr S a (w.alloc o) :=
  h.trans ⟨rfl, rfl, rfl, by simp, fun k hk _ => Below.heap_alloc _ _ _ hk⟩
theorem Fr.setCell {S : Nat → Prop} {a w : World} (h : Fr S a w) {p : Addr} (hp : S p.block ∨ a.heap.size ≤ p.block) (u : Value) : Fr S a (w.setCell p u) :=
  ⟨h.os, h.tape, h.output, by simpa [World.setCell] using h.size, fun k hk hn => (Below.heap_setCell _ _ _ _ (by rintro rfl; rcases hp with hp | hp; exact hn hp; omega)).trans (h.block k hk hn)⟩
theorem Fr.setRow {S : Nat → Prop} {a w : World} (h : Fr S a w) {g : Nat} (hp : S g ∨ a.heap.size ≤ g) (cs : Array Value) : Fr S a (w.setRow g cs) :=
  ⟨h.os, h.tape, h.output, by simpa [World.setRow] using h.size, fun k hk hn => (setRow_other w g k cs (by rintro rfl; rcases hp with hp | hp; exact hn hp; omega)).trans (h.block k hk hn)⟩
theorem Fr.of_below {S : Nat → Prop} {a w : World} (h : Below a.heap.size a w) : Fr S a w := ⟨h.os, h.tape, h.output, h.size, fun k hk _ => h.block k hk⟩
theorem Fr.below {S : Nat → Prop} {B : Nat} {a w : World} (h : Fr S a w) (hS : ∀ k, k < B → ¬ S k) (hB : B ≤ a.heap.size) : Below B a w :=
  ⟨h.os, h.tape, h.output, h.size, fun k hk => h.block k (by omega) (hS k hk)⟩

theorem lt_of_heap {w : World} {g : Nat} {o : Obj} (hg : w.heap[g]? = some o) : g < w.heap.size := by
  rcases Nat.lt_or_ge g w.heap.size with h' | h'
  · exact h'
  · simp [Array.getElem?_eq_none h'] at hg

/-- A row of bytes that begins with bs. -/
def Row (w : World) (g : Nat) (bs : List UInt8) : Prop := ∃ cur : Array Value, ∃ fr : Nat × Nat, w.heap[g]? = some (.cells cur 5 fr) ∧ cur.toList.take bs.length = Lib.byteCells bs

/-- A row of 512 bytes that may be written, and begins with bs. -/
def Buf (w : World) (g : Nat) (bs : List UInt8) : Prop := ∃ cur : Array Value, w.heap[g]? = some (.cells cur 5 (0, 0)) ∧ cur.size = 512 ∧ cur.toList.take bs.length = Lib.byteCells bs

theorem byteCells_length (l : List UInt8) : (Lib.byteCells l).length = l.length := by simp [Lib.byteCells]
theorem byteCells_get (l : List UInt8) (i : Nat) : (Lib.byteCells l)[i]? = (l[i]?).map fun b => Value.int .u8 b.toNat := by simp [Lib.byteCells]
theorem byteCells_take (l : List UInt8) (n : Nat) : (Lib.byteCells l).take n = Lib.byteCells (l.take n) := by simp [Lib.byteCells, List.map_take]
theorem byteCells_drop (l : List UInt8) (n : Nat) : (Lib.byteCells l).drop n = Lib.byteCells (l.drop n) := by simp [Lib.byteCells, List.map_drop]
theorem byteCells_oneCell (l : List UInt8) : ∀ v ∈ Lib.byteCells l, v.oneCell' = true := by
  intro v hv
  simp only [Lib.byteCells, List.mem_map] at hv
  obtain ⟨b, _, rfl⟩ := hv
  rfl

theorem row_cell {w : World} {g : Nat} {cur : Array Value} {fr : Nat × Nat} {e : TypeId} {bs : List UInt8} (h : w.heap[g]? = some (.cells cur e fr)) (ht : cur.toList.take bs.length = Lib.byteCells bs) (i : Nat) (hi : i < bs.length) :
    w.cell? ⟨g, i, none⟩ = some (.int .u8 (bs[i]'hi).toNat) := by
  have h2 : (cur.toList.take bs.length)[i]? = (Lib.byteCells bs)[i]? := by rw [ht]
  rw [byteCells_get, List.getElem?_take, if_pos hi, List.getElem?_eq_getElem hi] at h2
  simp [World.cell?, h]
  simpa using h2

theorem Row.cell {w : World} {g : Nat} {bs : List UInt8} (h : Row w g bs) (i : Nat) (hi : i < bs.length) : w.cell? ⟨g, i, none⟩ = some (.int .u8 (bs[i]'hi).toNat) := by
  obtain ⟨cur, fr, h1, h2⟩ := h
  exact row_cell h1 h2 i hi
theorem Buf.cell {w : World} {g : Nat} {bs : List UInt8} (h : Buf w g bs) (i : Nat) (hi : i < bs.length) : w.cell? ⟨g, i, none⟩ = some (.int .u8 (bs[i]'hi).toNat) := by
  obtain ⟨cur, h1, _, h2⟩ := h
  exact row_cell h1 h2 i hi
theorem Row.of_heap {w w' : World} {g : Nat} {bs : List UInt8} (h : Row w g bs) (e : w'.heap[g]? = w.heap[g]?) : Row w' g bs := by
  obtain ⟨cur, fr, h1, h2⟩ := h
  exact ⟨cur, fr, e.trans h1, h2⟩
theorem Buf.of_heap {w w' : World} {g : Nat} {bs : List UInt8} (h : Buf w g bs) (e : w'.heap[g]? = w.heap[g]?) : Buf w' g bs := by
  obtain ⟨cur, h1, h2⟩ := h
  exact ⟨cur, e.trans h1, h2⟩
theorem Buf.nil {w : World} {g : Nat} {bs : List UInt8} (h : Buf w g bs) : Buf w g [] := by
  obtain ⟨cur, h1, h2, _⟩ := h
  exact ⟨cur, h1, h2, rfl⟩

/-- The cells of a block of known cells. -/
theorem cell3 {w : World} {r : Nat} {x y z : Value} {T : TypeId} (h : w.heap[r]? = some (.cells #[x, y, z] T (0, 0))) :
    w.cell? ⟨r, 0, none⟩ = some x ∧ w.cell? ⟨r, 1, none⟩ = some y ∧ w.cell? ⟨r, 2, none⟩ = some z ∧ (∀ o, w.frozen? ⟨r, o, none⟩ = false) := by
  refine ⟨by simp [World.cell?, h], by simp [World.cell?, h], by simp [World.cell?, h], fun o => by simp [World.frozen?, h]⟩
theorem cell4 {w : World} {r : Nat} {x y z v : Value} {T : TypeId} (h : w.heap[r]? = some (.cells #[x, y, z, v] T (0, 0))) :
    w.cell? ⟨r, 0, none⟩ = some x ∧ w.cell? ⟨r, 1, none⟩ = some y ∧ w.cell? ⟨r, 2, none⟩ = some z ∧ w.cell? ⟨r, 3, none⟩ = some v ∧ (∀ o, w.frozen? ⟨r, o, none⟩ = false) := by
  refine ⟨by simp [World.cell?, h], by simp [World.cell?, h], by simp [World.cell?, h], by simp [World.cell?, h], fun o => by simp [World.frozen?, h]⟩
theorem heap_set {w : World} {r o : Nat} {c : Array Value} {T : TypeId} {v : Value} (h : w.heap[r]? = some (.cells c T (0, 0))) : (w.setCell ⟨r, o, none⟩ v).heap[r]? = some (.cells (c.setIfInBounds o v) T (0, 0)) := by
  simp [World.setCell, Array.getElem?_modify, h]
theorem heap_set_ne {w : World} {r k o : Nat} {v : Value} (h : k ≠ r) : (w.setCell ⟨r, o, none⟩ v).heap[k]? = w.heap[k]? := Below.heap_setCell _ _ _ _ h

end Go.Proofs.YtdabllkphibfmaaGreatDoor

/- bytes.Reader.Read, by its contract: it gives what is left, at most 512 bytes, or io.EOF. -/
namespace Go.Proofs.YtdabllkphibfmaaGreatDoor
open Go Go.RowKit

theorem size5 : (Tryz.prog.info? 5).map (·.size) = some 1 := by kernel_rfl

set_option maxRecDepth 100000 in
theorem read_more (T : List UInt8) (w : World) (r g t tc i : Nat) (pr : Int) (bs : List UInt8) (hr : w.heap[r]? = some (.cells #[.slice (some ⟨t,0,none⟩) T.length tc, .int .i64 i, .int .i64 pr] 116 (0, 0)))
    (ht : Row w t T) (hg : Buf w g bs) (hi : i < T.length) (hn : T.length ≤ tc) (htc : T.length ≤ 140737488351232) :
    Calls Tryz.prog 161 #[.pointer (some ⟨r,0,none⟩), .slice (some ⟨g,0,none⟩) 512 512] w fun e w' =>
      e = .returned (.tuple #[.int .i64 ((min (T.length - i) 512 : Nat) : Int), .nilIface]) ∧ w'.heap[r]? = some (.cells #[.slice (some ⟨t,0,none⟩) T.length tc, .int .i64 ((i + min (T.length - i) 512 : Nat) : Int), .int .i64 (-1)] 116 (0, 0)) ∧
      Buf w' g ((T.drop i).take (min (T.length - i) 512)) ∧ w'.heap.size = w.heap.size ∧ Fr (fun k => k = r ∨ k = g) w w' := by
  obtain ⟨cur, hgc, hgs, hgt⟩ := hg
  have hrg : g ≠ r := by rintro rfl; rw [hr] at hgc; simp at hgc
  have htr : t ≠ r := by
    rintro rfl
    obtain ⟨c, f, h1, _⟩ := ht
    rw [hr] at h1; simp at h1
  obtain ⟨h0, h1, h2, hf⟩ := cell3 hr
  have hf2 := hf 2
  have hlt : (i : Int) < T.length := by omega
  have hlt2 : i < tc := by omega
  have hle : i ≤ T.length := by omega
  have HR := Lib.hid hr
  have HG := Lib.hid hgc
  have HGS := Lib.hid hgs
  clear hf hr hgc hgs hgt
  go_enter Tryz.func161, Tryz.ntmps161
  go_wp2
  go_quiet (fail)
  go_wp2
  have hr1 := heap_set (w := w.drewN nq) (o := 2) (v := .int .i64 (-1)) HR.out
  have hg1 : ((w.drewN nq).setCell ⟨r, 2, none⟩ (.int .i64 (-1))).heap[g]? = _ := (heap_set_ne (w := w.drewN nq) hrg).trans HG.out
  have ht1 : Row ((w.drewN nq).setCell ⟨r, 2, none⟩ (.int .i64 (-1))) t T := ht.of_heap (heap_set_ne (w := w.drewN nq) htr)
  have hF1 : Fr (fun k => k = r ∨ k = g) w ((w.drewN nq).setCell ⟨r, 2, none⟩ (.int .i64 (-1))) := ((Fr.refl _ w).drewN nq).setCell (.inl (.inl rfl)) _
  have hS1 : ((w.drewN nq).setCell ⟨r, 2, none⟩ (.int .i64 (-1))).heap.size = w.heap.size := by simp [World.setCell]
  generalize (w.drewN nq).setCell { block := r, off := 2 } (Value.int IntKind.i64 (-1)) = W at *
  obtain ⟨k0, k1, k2, kf⟩ := cell3 hr1
  have HR1 := Lib.hid hr1
  have HG1 := Lib.hid hg1
  have HS1 := Lib.hid hS1
  clear kf hr1 h0 h1 h2 hf2 hg1 hS1 HR HG ht
  go_still_tail 10, (by kernel_rfl)
  change wpList _ _ _ _ _ W.drew
  obtain ⟨m, hm⟩ : ∃ m, m = min (T.length - i) 512 := ⟨_, rfl⟩
  have hml : m ≤ T.length - i := by omega
  have hcs : (Lib.byteCells ((T.drop i).take m)).length = m := by rw [byteCells_length]; simp; omega
  refine wpList_copy_own (by rfl) (.tmp 20) (.tmp 29) 31 31 rfl 5 Tryz.underlying31 size5 g 0 512 512 ⟨t, i, none⟩ (T.length - i) (tc - i) rfl (by simp [Act.eval]; intro h; omega) cur 5 HG1.out (Lib.byteCells ((T.drop i).take m)) (by rw [hcs, hm]) ?_ (by rw [hcs, HGS.out]; omega) (byteCells_oneCell _) ?_
  · intro j v hj
    rw [byteCells_get, List.getElem?_take] at hj
    split at hj
    · rw [List.getElem?_drop] at hj
      have hij : i + j < T.length := by
        rcases Nat.lt_or_ge (i + j) T.length with h | h
        · exact h
        · rw [List.getElem?_eq_none h] at hj; simp at hj
      rw [List.getElem?_eq_getElem hij] at hj
      simp only [Option.map_some, Option.some.injEq] at hj
      subst hj
      rw [Lib.addr_add]
      exact ht1.cell _ hij
    · simp at hj
  · have hg2 := setRow_heap W.drew g cur (cur.toList.take 0 ++ (Lib.byteCells ((T.drop i).take m) ++ cur.toList.drop (0 + (Lib.byteCells ((T.drop i).take m)).length))).toArray 5 (0, 0) HG1.out
    have hr2 : (W.drew.setRow g (cur.toList.take 0 ++ (Lib.byteCells ((T.drop i).take m) ++ cur.toList.drop (0 + (Lib.byteCells ((T.drop i).take m)).length))).toArray).heap[r]? = _ := (setRow_other W.drew g r _ (Ne.symm hrg)).trans HR1.out
    have hF2 : Fr (fun k => k = r ∨ k = g) w (W.drew.setRow g (cur.toList.take 0 ++ (Lib.byteCells ((T.drop i).take m) ++ cur.toList.drop (0 + (Lib.byteCells ((T.drop i).take m)).length))).toArray) := hF1.drew.setRow (.inl (.inr rfl)) _
    have hS2 : (W.drew.setRow g (cur.toList.take 0 ++ (Lib.byteCells ((T.drop i).take m) ++ cur.toList.drop (0 + (Lib.byteCells ((T.drop i).take m)).length))).toArray).heap.size = w.heap.size := by simpa [World.setRow] using HS1.out
    rw [hcs] at hg2 hr2 hF2 hS2 ⊢
    generalize W.drew.setRow g _ = W2 at *
    obtain ⟨q0, q1, q2, qf⟩ := cell3 hr2
    have qf1 := qf 1
    have HR2 := Lib.hid hr2
    have HG2 := Lib.hid hg2
    have HS2 := Lib.hid hS2
    have HM := Lib.hid hm
    have HC := Lib.hid hcs
    clear qf hr2 hg2 hS2 HR1 HG1 HS1 hm hcs k0 k1 k2
    have hb : (0 : Int) ≤ m := by omega
    have hb2 : (m : Int) ≤ 512 := by have := HM.out; omega
    go_wp2
    go_ret2
    have e : min (T.length - i) 512 = m := HM.out.symm
    rw [e]
    refine ⟨rfl, ?_, ?_, ?_, ?_⟩
    · exact (heap_set (o := 1) HR2.out).trans (by simp)
    · refine ⟨_, (heap_set_ne hrg).trans HG2.out, ?_, ?_⟩
      · have h2 := HC.out
        have h3 := HGS.out
        simp only [List.size_toArray, List.length_append, List.length_drop, Array.length_toList, List.take_zero, List.length_nil]
        omega
      · have h2 : ((T.drop i).take m).length = m := by rw [← byteCells_length]; exact HC.out
        rw [h2]
        simp only [List.take_zero, List.nil_append]
        rw [List.take_append_of_le_length (by rw [HC.out]; exact Nat.le_refl _)]
        exact List.take_of_length_le (by rw [HC.out]; exact Nat.le_refl _)
    · simpa [World.setCell] using HS2.out
    · exact hF2.setCell (.inl (.inl rfl)) _

/-- At the text's end: io.EOF. -/
theorem read_end (w : World) (r g t n tc : Nat) (pr : Int) (ea : Addr) (hE : w.cell? ⟨1, 0, none⟩ = some (.iface 150 (.pointer (some ea)))) (hr : w.heap[r]? = some (.cells #[.slice (some ⟨t,0,none⟩) n tc, .int .i64 n, .int .i64 pr] 116 (0, 0))) :
    Calls Tryz.prog 161 #[.pointer (some ⟨r,0,none⟩), .slice (some ⟨g,0,none⟩) 512 512] w fun e w' =>
      e = .returned (.tuple #[.int .i64 0, .iface 150 (.pointer (some ea))]) ∧ ∃ m, w' = w.drewN m := by
  obtain ⟨h0, h1, h2, hf⟩ := cell3 hr
  clear hf hr
  go_enter Tryz.func161, Tryz.ntmps161
  go_wp2
  go_quiet (fail)
  go_wp2
  go_quiet (fail)
  go_wp2
  go_ret2
  exact ⟨rfl, _, World.drewN_drewN _ _ _⟩

end Go.Proofs.YtdabllkphibfmaaGreatDoor

/- readIntoBuf, by its contracts. -/
namespace Go.Proofs.YtdabllkphibfmaaGreatDoor
open Go Go.RowKit

theorem nilAheadRead (a : Addr) (w : World) : (nilAhead 386 86 (.pointer (some a)) "Read").run Tryz.prog w = .ok (some false) w := by kernel_rfl
theorem methodRead (a : Addr) (w : World) : (method 386 86 (.pointer (some a)) "Read").run Tryz.prog w = .ok (161, .pointer (some a)) w := by kernel_rfl

/-- The scanner's block. -/
def Js (w : World) (j r : Nat) (bv : Value) (p : Nat) (ev : Value) : Prop := w.heap[j]? = some (.cells #[.iface 86 (.pointer (some ⟨r, 0, none⟩)), bv, .int .i64 p, ev] 91 (0, 0))
/-- The reader's block. -/
def Rd (w : World) (r t n tc i : Nat) : Prop := ∃ pr : Int, w.heap[r]? = some (.cells #[.slice (some ⟨t, 0, none⟩) n tc, .int .i64 i, .int .i64 pr] 116 (0, 0))
abbrev EOFv (ea : Addr) : Value := .iface 150 (.pointer (some ea))

set_option maxRecDepth 100000 in
theorem fill_chunk_more (T : List UInt8) (w : World) (j r g t tc i m p k : Nat) (bs : List UInt8) (hj : Js w j r (.slice (some ⟨g, 0, none⟩) m 512) p .nilIface) (hr : Rd w r t T.length tc i)
    (ht : Row w t T) (hg : Buf w g bs) (hi : i < T.length) (hn : T.length ≤ tc) (htc : T.length ≤ 140737488351232) (hk : k = min (T.length - i) 512) :
    Calls Tryz.prog 65 #[.pointer (some ⟨j, 0, none⟩)] w fun e w' => e = .returned .nilIface ∧ Js w' j r (.slice (some ⟨g, 0, none⟩) k 512) 0 .nilIface ∧
      Rd w' r t T.length tc (i + k) ∧ Buf w' g ((T.drop i).take k) ∧ w'.heap.size = w.heap.size ∧ Fr (fun x => x = j ∨ x = r ∨ x = g) w w' := by
  obtain ⟨pr, hr⟩ := hr
  have hjr : j ≠ r := by rintro rfl; rw [hj] at hr; simp at hr
  have hjg : j ≠ g := by
    rintro rfl
    obtain ⟨c, h1, _⟩ := hg
    rw [hj] at h1; simp at h1
  have hk1 : 0 < k := by omega
  have hk2 : k ≤ 512 := by omega
  have HRM := fun (W : World) a b c => read_more T W r g t tc i pr bs a b c hi hn htc
  rw [← hk] at HRM
  have HRM := Lib.hid HRM
  have HJ : Hid (w.heap[j]? = some (.cells #[.iface 86 (.pointer (some ⟨r, 0, none⟩)), .slice (some ⟨g, 0, none⟩) m 512, .int .i64 p, .nilIface] 91 (0, 0))) := Lib.hid hj
  obtain ⟨c0, c1, c2, c3, cf⟩ := cell4 hj
  have na := nilAheadRead
  have mt := methodRead
  have HR := Lib.hid hr
  clear hj hk hr cf
  go_enter Tryz.func65, Tryz.ntmps65
  go_wp2
  go_region_held3 (fun w' => w'.cell? ⟨j, 0, none⟩ = some (.iface 86 (.pointer (some ⟨r, 0, none⟩))) ∧ w'.cell? ⟨j, 1, none⟩ = some (.slice (some ⟨g, 0, none⟩) m 512)) (first | exact ⟨c0, c1⟩) (first | (go_at_call 161; refine (HRM.out _ ?_ ?_ ?_).mono ?_; exact HR.out; exact ht; exact hg; rintro e w1 ⟨rfl, hr1, hg1, hs1, hf1⟩; have hj1 : w1.heap[j]? = _ := (hf1.block j (lt_of_heap HJ.out) (by omega)).trans HJ.out; obtain ⟨c0, c1, c2, c3, cf⟩ := cell4 hj1; have cf0 := cf 0; have cf1 := cf 1; have cf2 := cf 2; have cf3 := cf 3; have HJ1 := Lib.hid hj1; have HR1 := Lib.hid hr1; have HS1 := Lib.hid hs1; clear cf hj1 hr1 hs1))
  have hb : (0 : Int) < (k : Int) := by omega
  have hb2 : (k : Int) ≤ 512 := by omega
  go_wp2
  go_ret
  have hgj : g ≠ j := Ne.symm hjg
  have hrj : r ≠ j := Ne.symm hjr
  refine ⟨rfl, ?_, ?_, ?_, ?_, ?_⟩
  · exact (heap_set (o := 2) (heap_set (o := 1) HJ1.out)).trans (by simp)
  · exact ⟨-1, ((heap_set_ne hrj).trans (heap_set_ne hrj)).trans HR1.out⟩
  · exact (hg1.of_heap (heap_set_ne hgj)).of_heap (heap_set_ne hgj)
  · simpa [World.setCell] using HS1.out
  · exact ((((Fr.refl _ w).drew).trans (hf1.mono (by omega))).setCell (.inl (.inl rfl)) _).setCell (.inl (.inl rfl)) _

set_option maxRecDepth 100000 in
theorem fill_chunk_end (w : World) (j r g t tc n m p : Nat) (bs : List UInt8) (ea : Addr) (hE : w.cell? ⟨1, 0, none⟩ = some (EOFv ea)) (hj : Js w j r (.slice (some ⟨g, 0, none⟩) m 512) p .nilIface) (hr : Rd w r t n tc n)
    (hg : Buf w g bs) :
    Calls Tryz.prog 65 #[.pointer (some ⟨j, 0, none⟩)] w fun e w' => e = .returned (EOFv ea) ∧ Js w' j r (.slice (some ⟨g, 0, none⟩) 0 512) 0 (EOFv ea) ∧ w'.heap.size = w.heap.size ∧ Fr (fun x => x = j) w w' := by
  obtain ⟨pr, hr⟩ := hr
  have hjg : j ≠ g := by
    rintro rfl
    obtain ⟨c, h1, _⟩ := hg
    rw [hj] at h1; simp at h1
  have HRM := Lib.hid (fun (W : World) a b => read_end W r g t n tc pr ea a b)
  have HE := Lib.hid hE
  have HJ : Hid (w.heap[j]? = some (.cells #[.iface 86 (.pointer (some ⟨r, 0, none⟩)), .slice (some ⟨g, 0, none⟩) m 512, .int .i64 p, .nilIface] 91 (0, 0))) := Lib.hid hj
  obtain ⟨c0, c1, c2, c3, cf⟩ := cell4 hj
  have cf1 := cf 1
  have cf2 := cf 2
  have cf3 := cf 3
  have na := nilAheadRead
  have mt := methodRead
  have HR := Lib.hid hr
  clear hj hr cf hE
  go_enter Tryz.func65, Tryz.ntmps65
  go_wp2
  go_region_held3 (fun w' => w'.cell? ⟨j, 0, none⟩ = some (.iface 86 (.pointer (some ⟨r, 0, none⟩))) ∧ w'.cell? ⟨j, 1, none⟩ = some (.slice (some ⟨g, 0, none⟩) m 512)) (first | exact ⟨c0, c1⟩) (first | (go_at_call 161; refine (HRM.out _ ?_ ?_).mono ?_; exact HE.out; exact HR.out; rintro e w1 ⟨rfl, q, rfl⟩))
  go_wp2
  go_ret
  refine ⟨rfl, ?_, ?_, ?_⟩
  · exact (heap_set (o := 2) (heap_set (o := 1) (heap_set (o := 3) HJ.out))).trans (by simp)
  · simp [World.setCell]
  · repeat first | exact Fr.refl _ _ | refine Fr.setCell ?_ (.inl (by exact rfl)) _ | refine Fr.drewN ?_ _ | refine Fr.drew ?_

/-- Where the end has been met, it is met again. -/
theorem fill_eof (w : World) (j r g m p : Nat) (ea : Addr) (hj : Js w j r (.slice (some ⟨g, 0, none⟩) m 512) p (EOFv ea)) :
    Calls Tryz.prog 65 #[.pointer (some ⟨j, 0, none⟩)] w fun e w' => e = .returned (EOFv ea) ∧ Js w' j r (.slice (some ⟨g, 0, none⟩) 0 512) 0 (EOFv ea) ∧ w'.heap.size = w.heap.size ∧ Fr (fun x => x = j) w w' := by
  have HJ : Hid (w.heap[j]? = some (.cells #[.iface 86 (.pointer (some ⟨r, 0, none⟩)), .slice (some ⟨g, 0, none⟩) m 512, .int .i64 p, EOFv ea] 91 (0, 0))) := Lib.hid hj
  obtain ⟨c0, c1, c2, c3, cf⟩ := cell4 hj
  have cf1 := cf 1
  have cf2 := cf 2
  clear hj cf
  go_enter Tryz.func65, Tryz.ntmps65
  go_wp2
  go_ret
  refine ⟨rfl, ?_, ?_, ?_⟩
  · exact (heap_set (o := 2) (heap_set (o := 1) HJ.out)).trans (by simp)
  · simp [World.setCell]
  · repeat first | exact Fr.refl _ _ | refine Fr.setCell ?_ (.inl (by exact rfl)) _ | refine Fr.drewN ?_ _ | refine Fr.drew ?_

end Go.Proofs.YtdabllkphibfmaaGreatDoor

/- readIntoBuf, at its first call. -/
namespace Go.Proofs.YtdabllkphibfmaaGreatDoor
open Go Go.RowKit

theorem makeRow (w : World) : (Instr.makeSlice 31 (.int .i64 0) (.int .i64 512)).run Tryz.prog w = .ok (.slice (some ⟨w.heap.size, 0, none⟩) 0 512) (w.alloc (.cells (Array.replicate 512 (.int .u8 0)) 5)) := by kernel_rfl

set_option maxRecDepth 100000 in
theorem fill_fresh_more (T : List UInt8) (w : World) (j r t tc k : Nat) (hj : Js w j r (.slice none 0 0) 0 .nilIface) (hr : Rd w r t T.length tc 0)
    (ht : Row w t T) (hi : 0 < T.length) (hn : T.length ≤ tc) (htc : T.length ≤ 140737488351232) (hk : k = min T.length 512) :
    Calls Tryz.prog 65 #[.pointer (some ⟨j, 0, none⟩)] w fun e w' => e = .returned .nilIface ∧ Js w' j r (.slice (some ⟨w.heap.size, 0, none⟩) k 512) 0 .nilIface ∧
      Rd w' r t T.length tc k ∧ Buf w' w.heap.size (T.take k) ∧ Fr (fun x => x = j ∨ x = r) w w' := by
  obtain ⟨pr, hr⟩ := hr
  have hjr : j ≠ r := by rintro rfl; rw [hj] at hr; simp at hr
  have hjs : j < w.heap.size := lt_of_heap hj
  have hrs : r < w.heap.size := lt_of_heap hr
  have hts : t < w.heap.size := by obtain ⟨c, f, h1, _⟩ := ht; exact lt_of_heap h1
  have htj : t ≠ j := by
    rintro rfl
    obtain ⟨c, f, h1, _⟩ := ht
    rw [hj] at h1; simp at h1
  have hk1 : 0 < k := by omega
  have hk2 : k ≤ 512 := by omega
  have HRM := fun (W : World) g a b c => read_more T W r g t tc 0 pr [] a b c hi hn htc
  simp only [Nat.sub_zero, Nat.zero_add, List.drop_zero] at HRM
  rw [← hk] at HRM
  have HRM := Lib.hid HRM
  have HJ : Hid (w.heap[j]? = some (.cells #[.iface 86 (.pointer (some ⟨r, 0, none⟩)), .slice none 0 0, .int .i64 0, .nilIface] 91 (0, 0))) := Lib.hid hj
  obtain ⟨c0, c1, c2, c3, cf⟩ := cell4 hj
  have cf1 := cf 1
  have na := nilAheadRead
  have mt := methodRead
  have mk := makeRow
  have HR := Lib.hid hr
  clear hj hk hr cf
  obtain ⟨H, hH⟩ : ∃ H, H = w.heap.size := ⟨_, rfl⟩
  have HH := Lib.hid hH
  clear hH
  go_enter Tryz.func65, Tryz.ntmps65
  go_wp2
  have hH := HH.out
  rw [← hH]
  have hsz : (w.setCell ⟨j, 1, none⟩ (.slice (some ⟨H, 0, none⟩) 0 512)).heap.size = H := by simp [World.setCell]; exact hH.symm
  have hj1 : ((w.setCell ⟨j, 1, none⟩ (.slice (some ⟨H, 0, none⟩) 0 512)).alloc (.cells (Array.replicate 512 (.int .u8 0)) 5)).heap[j]? = _ := (Below.heap_alloc _ _ j (by omega)).trans (heap_set (o := 1) HJ.out)
  have hr1 : ((w.setCell ⟨j, 1, none⟩ (.slice (some ⟨H, 0, none⟩) 0 512)).alloc (.cells (Array.replicate 512 (.int .u8 0)) 5)).heap[r]? = _ := (Below.heap_alloc _ _ r (by omega)).trans ((heap_set_ne (Ne.symm hjr)).trans HR.out)
  have ht1 : Row ((w.setCell ⟨j, 1, none⟩ (.slice (some ⟨H, 0, none⟩) 0 512)).alloc (.cells (Array.replicate 512 (.int .u8 0)) 5)) t T := ht.of_heap ((Below.heap_alloc _ _ t (by omega)).trans (heap_set_ne htj))
  have hg1 : Buf ((w.setCell ⟨j, 1, none⟩ (.slice (some ⟨H, 0, none⟩) 0 512)).alloc (.cells (Array.replicate 512 (.int .u8 0)) 5)) H [] := ⟨_, by have h := heap_alloc_new (w.setCell ⟨j, 1, none⟩ (.slice (some ⟨H, 0, none⟩) 0 512)) (.cells (Array.replicate 512 (.int .u8 0)) 5); rw [hsz] at h; exact h, by simp, by simp [Lib.byteCells]⟩
  have hf1 : Fr (fun x => x = j ∨ x = r) w ((w.setCell ⟨j, 1, none⟩ (.slice (some ⟨H, 0, none⟩) 0 512)).alloc (.cells (Array.replicate 512 (.int .u8 0)) 5)) := ((Fr.refl _ w).setCell (.inl (.inl rfl)) _).alloc _
  have hs1 : ((w.setCell ⟨j, 1, none⟩ (.slice (some ⟨H, 0, none⟩) 0 512)).alloc (.cells (Array.replicate 512 (.int .u8 0)) 5)).heap.size = H + 1 := by simp [World.setCell]; exact hH.symm
  generalize ((w.setCell ⟨j, 1, none⟩ (.slice (some ⟨H, 0, none⟩) 0 512)).alloc (.cells (Array.replicate 512 (.int .u8 0)) 5)) = W at *
  clear c0 c1 c2 c3 cf1
  obtain ⟨c0, c1, c2, c3, cf⟩ := cell4 hj1
  have HJ0 := Lib.hid hj1
  have HR0 := Lib.hid hr1
  have HS0 := Lib.hid hs1
  have hjH : j < H := by omega
  have hrH : r < H := by omega
  clear cf hj1 hr1 hs1 hH hsz
  go_region_held3 (fun w' => w'.cell? ⟨j, 0, none⟩ = some (.iface 86 (.pointer (some ⟨r, 0, none⟩))) ∧ w'.cell? ⟨j, 1, none⟩ = some (.slice (some ⟨H, 0, none⟩) 0 512)) (first | exact ⟨c0, c1⟩) (first | (go_at_call 161; refine (HRM.out _ H ?_ ?_ ?_).mono ?_; exact HR0.out; exact ht1; exact hg1; rintro e w1 ⟨rfl, hr1, hg2, hs1, hf2⟩; have hj1 : w1.heap[j]? = _ := (hf2.block j (lt_of_heap HJ0.out) (by omega)).trans HJ0.out; obtain ⟨c0, c1, c2, c3, cf⟩ := cell4 hj1; have cf0 := cf 0; have cf1 := cf 1; have cf2 := cf 2; have cf3 := cf 3; have HJ1 := Lib.hid hj1; have HR1 := Lib.hid hr1; have HS1 := Lib.hid hs1; clear cf hj1 hr1 hs1))
  have hb : (0 : Int) < (k : Int) := by omega
  have hb2 : (k : Int) ≤ 512 := by omega
  go_wp2
  go_ret
  have hh := HH.out
  clear HH
  subst hh
  have hgj : w.heap.size ≠ j := by omega
  have hrj : r ≠ j := Ne.symm hjr
  refine ⟨rfl, ?_, ?_, ?_, ?_⟩
  · exact (heap_set (o := 2) (heap_set (o := 1) HJ1.out)).trans (by simp)
  · exact ⟨-1, ((heap_set_ne hrj).trans (heap_set_ne hrj)).trans HR1.out⟩
  · exact (hg2.of_heap (heap_set_ne hgj)).of_heap (heap_set_ne hgj)
  · exact (((hf1.drew).trans' hf2 (by intro x hx h; rcases h with h | h <;> omega)).setCell (.inl (.inl rfl)) _).setCell (.inl (.inl rfl)) _

set_option maxRecDepth 100000 in
theorem fill_fresh_end (w : World) (j r t tc : Nat) (ea : Addr) (hE : w.cell? ⟨1, 0, none⟩ = some (EOFv ea)) (h1j : j ≠ 1) (hj : Js w j r (.slice none 0 0) 0 .nilIface) (hr : Rd w r t 0 tc 0) :
    Calls Tryz.prog 65 #[.pointer (some ⟨j, 0, none⟩)] w fun e w' => e = .returned (EOFv ea) ∧ Js w' j r (.slice (some ⟨w.heap.size, 0, none⟩) 0 512) 0 (EOFv ea) ∧
      Buf w' w.heap.size [] ∧ Fr (fun x => x = j) w w' := by
  obtain ⟨pr, hr⟩ := hr
  have hjr : j ≠ r := by rintro rfl; rw [hj] at hr; simp at hr
  have hjs : j < w.heap.size := lt_of_heap hj
  have hrs : r < w.heap.size := lt_of_heap hr
  have h1s : 1 < w.heap.size := World.block_lt_of_cell? w ⟨1, 0, none⟩ hE
  have HRM := fun (W : World) g a b => read_end W r g t 0 tc pr ea a b
  have HRM := Lib.hid HRM
  have HJ : Hid (w.heap[j]? = some (.cells #[.iface 86 (.pointer (some ⟨r, 0, none⟩)), .slice none 0 0, .int .i64 0, .nilIface] 91 (0, 0))) := Lib.hid hj
  obtain ⟨c0, c1, c2, c3, cf⟩ := cell4 hj
  have cf1 := cf 1
  have na := nilAheadRead
  have mt := methodRead
  have mk := makeRow
  have HR := Lib.hid hr
  have HE := Lib.hid hE
  clear hj hr cf hE
  obtain ⟨H, hH⟩ : ∃ H, H = w.heap.size := ⟨_, rfl⟩
  have HH := Lib.hid hH
  clear hH
  go_enter Tryz.func65, Tryz.ntmps65
  go_wp2
  have hH := HH.out
  rw [← hH]
  have hsz : (w.setCell ⟨j, 1, none⟩ (.slice (some ⟨H, 0, none⟩) 0 512)).heap.size = H := by simp [World.setCell]; exact hH.symm
  have hj1 : ((w.setCell ⟨j, 1, none⟩ (.slice (some ⟨H, 0, none⟩) 0 512)).alloc (.cells (Array.replicate 512 (.int .u8 0)) 5)).heap[j]? = _ := (Below.heap_alloc _ _ j (by omega)).trans (heap_set (o := 1) HJ.out)
  have hr1 : ((w.setCell ⟨j, 1, none⟩ (.slice (some ⟨H, 0, none⟩) 0 512)).alloc (.cells (Array.replicate 512 (.int .u8 0)) 5)).heap[r]? = _ := (Below.heap_alloc _ _ r (by omega)).trans ((heap_set_ne (Ne.symm hjr)).trans HR.out)
  have hE1 : ((w.setCell ⟨j, 1, none⟩ (.slice (some ⟨H, 0, none⟩) 0 512)).alloc (.cells (Array.replicate 512 (.int .u8 0)) 5)).cell? ⟨1, 0, none⟩ = some (EOFv ea) := (World.cell?_of_block (a := ⟨1, 0, none⟩) ((Below.heap_alloc _ _ 1 (by omega)).trans (heap_set_ne (Ne.symm h1j)))).trans HE.out
  have hg1 : Buf ((w.setCell ⟨j, 1, none⟩ (.slice (some ⟨H, 0, none⟩) 0 512)).alloc (.cells (Array.replicate 512 (.int .u8 0)) 5)) H [] := ⟨_, by have h := heap_alloc_new (w.setCell ⟨j, 1, none⟩ (.slice (some ⟨H, 0, none⟩) 0 512)) (.cells (Array.replicate 512 (.int .u8 0)) 5); rw [hsz] at h; exact h, by simp, by simp [Lib.byteCells]⟩
  have hf1 : Fr (fun x => x = j) w ((w.setCell ⟨j, 1, none⟩ (.slice (some ⟨H, 0, none⟩) 0 512)).alloc (.cells (Array.replicate 512 (.int .u8 0)) 5)) := ((Fr.refl (fun x => x = j) w).setCell (.inl rfl) _).alloc _
  have hs1 : ((w.setCell ⟨j, 1, none⟩ (.slice (some ⟨H, 0, none⟩) 0 512)).alloc (.cells (Array.replicate 512 (.int .u8 0)) 5)).heap.size = H + 1 := by simp [World.setCell]; exact hH.symm
  generalize ((w.setCell ⟨j, 1, none⟩ (.slice (some ⟨H, 0, none⟩) 0 512)).alloc (.cells (Array.replicate 512 (.int .u8 0)) 5)) = W at *
  clear c0 c1 c2 c3 cf1
  obtain ⟨c0, c1, c2, c3, cf⟩ := cell4 hj1
  have HJ0 := Lib.hid hj1
  have HR0 := Lib.hid hr1
  have HS0 := Lib.hid hs1
  have hjH : j < H := by omega
  have hrH : r < H := by omega
  have cf1 := cf 1
  have cf2 := cf 2
  have cf3 := cf 3
  have HE1 := Lib.hid hE1
  clear cf hj1 hr1 hs1 hH hsz hE1
  go_region_held3 (fun w' => w'.cell? ⟨j, 0, none⟩ = some (.iface 86 (.pointer (some ⟨r, 0, none⟩))) ∧ w'.cell? ⟨j, 1, none⟩ = some (.slice (some ⟨H, 0, none⟩) 0 512)) (first | exact ⟨c0, c1⟩) (first | (go_at_call 161; refine (HRM.out _ H ?_ ?_).mono ?_; exact HE1.out; exact HR0.out; rintro e w1 ⟨rfl, q, rfl⟩))
  go_wp2
  go_ret
  have hh := HH.out
  clear HH
  subst hh
  have hgj : w.heap.size ≠ j := by omega
  refine ⟨rfl, ?_, ?_, ?_⟩
  · exact (heap_set (o := 2) (heap_set (o := 1) (heap_set (o := 3) HJ0.out))).trans (by simp)
  · exact ((hg1.of_heap (heap_set_ne hgj)).of_heap (heap_set_ne hgj)).of_heap (heap_set_ne hgj)
  · exact (((hf1.drewN _).setCell (p := ⟨j, 3, none⟩) (.inl rfl) _).setCell (p := ⟨j, 1, none⟩) (.inl rfl) _).setCell (p := ⟨j, 2, none⟩) (.inl rfl) _

end Go.Proofs.YtdabllkphibfmaaGreatDoor
