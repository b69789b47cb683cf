/- Behind \u: plain lemmas, and the small row. -/
import Derived.Test.YtdabllkphibfmaaGreatDoorStrA
namespace Go.Proofs.YtdabllkphibfmaaGreatDoor
open Go Go.RowKit

theorem drop_cons {T : List UInt8} {q : Nat} {a : UInt8} {r : List UInt8} (h : T.drop q = a :: r) : q < T.length ∧ T[q]? = some a ∧ T.drop (q + 1) = r := by
  have hq : q < T.length := by
    rcases Nat.lt_or_ge q T.length with h' | h'
    · exact h'
    · rw [List.drop_eq_nil_of_le h'] at h; cases h
  rw [List.drop_eq_getElem_cons hq] at h
  injection h with h1 h2
  exact ⟨hq, by rw [List.getElem?_eq_getElem hq, h1], h2⟩

theorem u4_hex {a b c d : UInt8} {n : Nat} (h : u4 a b c d = some n) : ∃ xs, [a, b, c, d].map hexv = xs.map some ∧ hexF xs = n ∧ n < 65536 := by
  unfold u4 at h
  split at h
  · rename_i x y z v hx hy hz hv
    injection h with h
    refine ⟨[x, y, z, v], by simp [hx, hy, hz, hv], ?_, ?_⟩
    · simp [hexF]; omega
    · have := (hexv_cases hx).1
      have := (hexv_cases hy).1
      have := (hexv_cases hz).1
      have := (hexv_cases hv).1
      omega
  · cases h

/-- What stands behind \u: fewer than four bytes; or a number that is a character; or a pair. -/
theorem strU_cases {T : List UInt8} {q : Nat} (h : strU (T.drop q) ≠ .out) :
    (T.length < q + 4 ∧ strU (T.drop q) = .err) ∨
    ∃ a b c d n, T[q]? = some a ∧ T[q + 1]? = some b ∧ T[q + 2]? = some c ∧ T[q + 3]? = some d ∧ q + 4 ≤ T.length ∧ u4 a b c d = some n ∧
      (((n < 55296 ∨ 57344 ≤ n) ∧ strU (T.drop q) = .more (runeB n) (T.drop (q + 4))) ∨
       (55296 ≤ n ∧ n < 56320 ∧ ∃ a' b' c' d' m, T[q + 4]? = some 92 ∧ T[q + 5]? = some 117 ∧ T[q + 6]? = some a' ∧ T[q + 7]? = some b' ∧ T[q + 8]? = some c' ∧ T[q + 9]? = some d' ∧ q + 10 ≤ T.length ∧ u4 a' b' c' d' = some m ∧ 56320 ≤ m ∧ m < 57344 ∧
         strU (T.drop q) = .more (runeB ((n - 55296) * 1024 + (m - 56320) + 65536)) (T.drop (q + 10)))) := by
  generalize hE : strU (T.drop q) = E at *
  unfold strU at hE
  split at hE
  · rename_i a b c d r' h0
    obtain ⟨l0, g0, h1⟩ := drop_cons h0
    obtain ⟨l1, g1, h2⟩ := drop_cons h1
    obtain ⟨l2, g2, h3⟩ := drop_cons h2
    obtain ⟨l3, g3, h4⟩ := drop_cons h3
    right
    split at hE
    · exact absurd hE.symm h
    · rename_i n hn
      refine ⟨a, b, c, d, n, g0, g1, g2, g3, by omega, hn, ?_⟩
      split at hE
      · rename_i hs
        left
        exact ⟨hs, by rw [← hE, ← h4]⟩
      · rename_i hs
        right
        split at hE
        · rename_i a' b' c' d' r''
          obtain ⟨m0, k0, h5⟩ := drop_cons h4
          obtain ⟨m1, k1, h6⟩ := drop_cons h5
          obtain ⟨m2, k2, h7⟩ := drop_cons h6
          obtain ⟨m3, k3, h8⟩ := drop_cons h7
          obtain ⟨m4, k4, h9⟩ := drop_cons h8
          obtain ⟨m5, k5, h10⟩ := drop_cons h9
          split at hE
          · exact absurd hE.symm h
          · rename_i m hm
            split at hE
            · rename_i hp
              exact ⟨by omega, hp.1, a', b', c', d', m, k0, k1, k2, k3, k4, k5, by omega, hm, hp.2.1, hp.2.2, by rw [← hE, ← h10]⟩
            · exact absurd hE.symm h
        · exact absurd hE.symm h
  · rename_i h0
    left
    refine ⟨?_, hE.symm⟩
    rcases Nat.lt_or_ge T.length (q + 4) with h' | h'
    · exact h'
    · exfalso
      have e0 := List.drop_eq_getElem_cons (l := T) (i := q) (by omega)
      have e1 := List.drop_eq_getElem_cons (l := T) (i := q + 1) (by omega)
      have e2 := List.drop_eq_getElem_cons (l := T) (i := q + 1 + 1) (by omega)
      have e3 := List.drop_eq_getElem_cons (l := T) (i := q + 1 + 1 + 1) (by omega)
      rw [e1, e2, e3] at e0
      exact h0 _ _ _ _ _ e0

theorem makeRow4 (w : World) : (Instr.makeSlice 31 (.int .i64 4) (.int .i64 4)).run Tryz.prog w = .ok (.slice (some ⟨w.heap.size, 0, none⟩) 4 4) (w.alloc (.cells #[.int .u8 0, .int .u8 0, .int .u8 0, .int .u8 0] 5)) := by kernel_rfl

theorem fillA4 {T : List UInt8} {q : Nat} {a b c d : UInt8} (h0 : T[q]? = some a) (h1 : T[q + 1]? = some b) (h2 : T[q + 2]? = some c) (h3 : T[q + 3]? = some d) (x0 x1 x2 x3 : Value) :
    fillA T q 0 #[x0, x1, x2, x3] 4 = (Lib.byteCells [a, b, c, d]).toArray := by
  simp [fillA, h0, h1, h2, h3, Lib.byteCells]

/-- A new row beside the scanner. -/
theorem Sc.St.alloc {s : Sc} {g : Option Nat} {q p : Nat} {w : World} (h : s.St g q p w) (o : Obj) : s.St g q p (w.alloc o) ∧ s.free g w.heap.size :=
  ⟨h.of_heap fun k hk => Below.heap_alloc _ _ _ (h.lt k hk), fun k hk => Nat.ne_of_lt (h.lt k hk)⟩

/-- Four bytes into the new row u, the buffer beside. -/
theorem buf_read4 {s : Sc} {g : Option Nat} {q p u : Nat} {w wx w1 w2 : World} {bs : List Value} (hl : s.St g q p w) (h : Lib.IsBuffer 107 5 w.heap.size w.heap.size bs wx) (h1 : ∀ k, k < wx.heap.size → w1.heap[k]? = wx.heap[k]?) (hs : wx.heap.size ≤ u) (hz : wx.heap.size ≤ w1.heap.size) (hf : Fr (s.SU g u) w1 w2) :
    Lib.IsBuffer 107 5 w.heap.size w.heap.size bs w2 :=
  isBuffer_of h fun k hk hk2 => (hf.block k (by omega) (by
    rintro (hS | hS)
    · have := hl.lt k (Sc.own_of_S hS); omega
    · omega)).trans (h1 k hk2)

theorem runeB_length (n : Nat) : (runeB n).length ≤ 4 := by
  have := (Lib.runeCells_le (n : Int)).2
  rwa [Lib.runeCells_length] at this
theorem runeB_cells (n : Nat) : Lib.runeCells (n : Int) = Lib.byteCells (runeB n) := by
  rw [runeB, Lib.byteCells_encodeRune]

theorem isSurr_no (n : Nat) (h : n < 55296 ∨ 57344 ≤ n) (w : World) : Calls Tryz.prog 70 #[.int .i32 n] w fun e w' => e = .returned (.bool false) ∧ w = w' := by
  refine (isSurr n w).mono ?_
  rintro e w' ⟨rfl, rfl⟩
  refine ⟨?_, rfl⟩
  have : (decide ((55296 : Int) ≤ n) && decide ((n : Int) < 57344)) = false := by
    rw [Bool.and_eq_false_iff, decide_eq_false_iff_not, decide_eq_false_iff_not]
    omega
  rw [this]
theorem isSurr_yes (n : Nat) (h : 55296 ≤ n) (h2 : n < 56320) (w : World) : Calls Tryz.prog 70 #[.int .i32 n] w fun e w' => e = .returned (.bool true) ∧ w = w' := by
  refine (isSurr n w).mono ?_
  rintro e w' ⟨rfl, rfl⟩
  refine ⟨?_, rfl⟩
  have : (decide ((55296 : Int) ≤ n) && decide ((n : Int) < 57344)) = true := by
    rw [Bool.and_eq_true, decide_eq_true_eq, decide_eq_true_eq]
    omega
  rw [this]

theorem getu4_at {a b c d : UInt8} {n : Nat} (h : u4 a b c d = some n) (u : Nat) (w : World) (hu : w.heap[u]? = some (.cells (Lib.byteCells [a, b, c, d]).toArray 5 (0, 0))) :
    Calls Tryz.prog 69 #[.slice (some ⟨u, 0, none⟩) 4 4] w fun e w' => e = .returned (.int .i32 (n : Int)) ∧ w = w' := by
  obtain ⟨xs, h1, h2, _⟩ := u4_hex h
  have := getu4_ok u [a, b, c, d] rfl xs h1 w hu
  rw [h2] at this
  exact this

theorem writeRune (B b : Nat) (bs : List Value) (n : Nat) (hn : n ≤ 1114111) (w : World) (h : Lib.IsBuffer 107 5 B b bs w) (hBw : B ≤ w.heap.size) (h1 : ∀ v ∈ bs, v.oneCell' = true) (hlim : bs.length + 4 ≤ 140737488355328) :
    Calls Tryz.prog 71 #[.pointer (some ⟨b, 0, none⟩), .int .i32 (n : Int)] w fun e w' => ∃ l, e = .returned (.tuple #[.int .i64 l, .nilIface]) ∧ Lib.IsBuffer 107 5 B b (bs ++ Lib.byteCells (runeB n)) w' ∧ Below B w w' := by
  refine (Tryz.Buffer_WriteRune_k B b bs n (by omega) (by omega) w h hBw h1 hlim).mono ?_
  rintro e w' ⟨rfl, h2, h3, h4⟩
  refine ⟨_, rfl, ?_, h3⟩
  rw [← runeB_cells]
  exact h2

theorem u4_lt {a b c d : UInt8} {n : Nat} (h : u4 a b c d = some n) : n < 65536 := (u4_hex h).choose_spec.2.2

/-- Four bytes into the new row. -/
theorem readN4 (s : Sc) (g : Option Nat) (q p : Nat) {a b c d : UInt8} (w : World) (h : s.St g q p w) (h0 : 0 < q) (hq : q + 4 ≤ s.T.length) (g0 : s.T[q]? = some a) (g1 : s.T[q + 1]? = some b) (g2 : s.T[q + 2]? = some c) (g3 : s.T[q + 3]? = some d) (u : Nat) (cs : Array Value) (hc : cs.size = 4)
    (hu : w.heap[u]? = some (.cells cs 5 (0, 0))) (hfree : s.free g u) :
    Calls Tryz.prog 68 #[.pointer (some ⟨s.j, 0, none⟩), .slice (some ⟨u, 0, none⟩) 4 4, .int .i64 4, .int .i64 0] w fun e w' => e = .returned .nilIface ∧ (∃ p', s.St g (q + 4) p' w') ∧ w'.heap[u]? = some (.cells (Lib.byteCells [a, b, c, d]).toArray 5 (0, 0)) ∧ Fr (s.SU g u) w w' := by
  have h := readN_ok s g q p u 4 0 cs w h h0 hq hu hc (by omega) hfree
  have e : fillA s.T q 0 cs 4 = (Lib.byteCells [a, b, c, d]).toArray := by
    match cs, hc with
    | ⟨[x0, x1, x2, x3]⟩, _ => exact fillA4 g0 g1 g2 g3 x0 x1 x2 x3
  rw [e] at h
  exact h

end Go.Proofs.YtdabllkphibfmaaGreatDoor
