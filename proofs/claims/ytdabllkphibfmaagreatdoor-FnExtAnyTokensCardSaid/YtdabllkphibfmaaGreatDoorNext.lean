/- The scanner's state, and readNextByte by its contracts. -/
import Derived.Test.YtdabllkphibfmaaGreatDoorFillB
namespace Go.Proofs.YtdabllkphibfmaaGreatDoor
open Go Go.RowKit

/-- What a scanner over the text T has: the text's row t (capacity tc), its own block j, the reader's block r, the sentinel at ea, the buffer's row g (none ahead of the first byte); q: how many bytes of the text are behind it; p: its own counter. -/
structure Sc where
  T : List UInt8
  t : Nat
  tc : Nat
  j : Nat
  r : Nat
  ea : Addr

/-- The blocks that a read may turn. -/
def Sc.S (s : Sc) (g : Option Nat) (k : Nat) : Prop := k = s.j ∨ k = s.r ∨ some k = g

/-- The blocks of a scanner. -/
def Sc.own (s : Sc) (g : Option Nat) (k : Nat) : Prop := k = 1 ∨ k = s.t ∨ k = s.j ∨ k = s.r ∨ some k = g

def Sc.chunk (s : Sc) (g : Option Nat) (q p : Nat) (w : World) : Prop :=
  ∃ x a m, g = some x ∧ q = a + p ∧ p ≤ m ∧ 0 < m ∧ m ≤ 512 ∧ a % 512 = 0 ∧ a + m ≤ s.T.length ∧ (m = 512 ∨ a + m = s.T.length) ∧
    Rd w s.r s.t s.T.length s.tc (a + m) ∧ Js w s.j s.r (.slice (some ⟨x, 0, none⟩) m 512) p .nilIface ∧ Buf w x ((s.T.drop a).take m)

def Sc.fresh (s : Sc) (g : Option Nat) (q p : Nat) (w : World) : Prop :=
  g = none ∧ q = 0 ∧ p = 0 ∧ Rd w s.r s.t s.T.length s.tc 0 ∧ Js w s.j s.r (.slice none 0 0) 0 .nilIface

def Sc.over (s : Sc) (g : Option Nat) (q p : Nat) (w : World) : Prop :=
  ∃ x, g = some x ∧ q = s.T.length ∧ p = 0 ∧ Js w s.j s.r (.slice (some ⟨x, 0, none⟩) 0 512) 0 (EOFv s.ea) ∧ Buf w x [] ∧ Rd w s.r s.t s.T.length s.tc s.T.length

structure Sc.St (s : Sc) (g : Option Nat) (q p : Nat) (w : World) : Prop where
  row : Row w s.t s.T
  eof : w.cell? ⟨1, 0, none⟩ = some (EOFv s.ea)
  hn : s.T.length ≤ s.tc
  htc : s.T.length ≤ 140737488351232
  h1 : s.j ≠ 1 ∧ s.r ≠ 1 ∧ (∀ x, g = some x → x ≠ 1 ∧ x ≠ s.t)
  at_ : s.fresh g q p w ∨ s.chunk g q p w ∨ s.over g q p w

/-- The buffer's row stays, or is new. -/
def gOk (g g' : Option Nat) (w : World) : Prop := g' = g ∨ (g = none ∧ ∃ x, g' = some x ∧ w.heap.size ≤ x)

theorem Js.of_heap {w w' : World} {j r : Nat} {bv : Value} {p : Nat} {ev : Value} (h : Js w j r bv p ev) (e : w'.heap[j]? = w.heap[j]?) : Js w' j r bv p ev := e.trans h
theorem Rd.of_heap {w w' : World} {r t n tc i : Nat} (h : Rd w r t n tc i) (e : w'.heap[r]? = w.heap[r]?) : Rd w' r t n tc i := by
  obtain ⟨pr, h⟩ := h
  exact ⟨pr, e.trans h⟩

theorem Sc.St.of_heap {s : Sc} {g : Option Nat} {q p : Nat} {w w' : World} (h : s.St g q p w) (e : ∀ k, s.own g k → w'.heap[k]? = w.heap[k]?) : s.St g q p w' := by
  obtain ⟨h1, h2, h3, h4, h5, h6⟩ := h
  refine ⟨h1.of_heap (e _ (.inr (.inl rfl))), (World.cell?_of_block (a := ⟨1, 0, none⟩) (e _ (.inl rfl))).trans h2, h3, h4, h5, ?_⟩
  have ej := e s.j (.inr (.inr (.inl rfl)))
  have er := e s.r (.inr (.inr (.inr (.inl rfl))))
  rcases h6 with ⟨a, b, c, d, f⟩ | ⟨x, a, m, hg, b, c, d, d2, f, f2, f3, k, l, n⟩ | ⟨x, hg, a, b, c, d, d2⟩
  · exact .inl ⟨a, b, c, d.of_heap er, f.of_heap ej⟩
  · have eg := e x (.inr (.inr (.inr (.inr hg.symm))))
    exact .inr (.inl ⟨x, a, m, hg, b, c, d, d2, f, f2, f3, k.of_heap er, l.of_heap ej, n.of_heap eg⟩)
  · have eg := e x (.inr (.inr (.inr (.inr hg.symm))))
    exact .inr (.inr ⟨x, hg, a, b, c.of_heap ej, d.of_heap eg, d2.of_heap er⟩)

/-- The scanner's block, whatever the state. -/
theorem Sc.St.js {s : Sc} {g : Option Nat} {q p : Nat} {w : World} (h : s.St g q p w) : ∃ bv ev, Js w s.j s.r bv p ev := by
  rcases h.at_ with ⟨_, _, rfl, _, f⟩ | ⟨x, a, m, _, _, _, _, _, _, _, _, _, l, _⟩ | ⟨x, _, _, rfl, c, _, _⟩
  · exact ⟨_, _, f⟩
  · exact ⟨_, _, l⟩
  · exact ⟨_, _, c⟩

/-- All blocks of a scanner are there. -/
theorem Sc.St.lt {s : Sc} {g : Option Nat} {q p : Nat} {w : World} (h : s.St g q p w) : ∀ k, s.own g k → k < w.heap.size := by
  intro k hk
  obtain ⟨bv, ev, hj⟩ := h.js
  rcases hk with rfl | rfl | rfl | rfl | hg
  · exact World.block_lt_of_cell? w ⟨1, 0, none⟩ h.eof
  · obtain ⟨c, f, h1, _⟩ := h.row
    exact lt_of_heap h1
  · exact lt_of_heap hj
  · rcases h.at_ with ⟨_, _, _, d, _⟩ | ⟨x, a, m, _, _, _, _, _, _, _, _, k, _, _⟩ | ⟨x, _, _, _, c, _, d⟩
    · obtain ⟨pr, d⟩ := d; exact lt_of_heap d
    · obtain ⟨pr, d⟩ := k; exact lt_of_heap d
    · obtain ⟨pr, d⟩ := d; exact lt_of_heap d
  · rcases h.at_ with ⟨a, _⟩ | ⟨x, a, m, hx, _, _, _, _, _, _, _, _, _, n⟩ | ⟨x, hx, _, _, _, n, _⟩
    · rw [a] at hg; cases hg
    · obtain rfl : k = x := by rw [hx] at hg; injection hg
      obtain ⟨c, h1, _⟩ := n; exact lt_of_heap h1
    · obtain rfl : k = x := by rw [hx] at hg; injection hg
      obtain ⟨c, h1, _⟩ := n; exact lt_of_heap h1

theorem nb_direct (w : World) (j r x m p : Nat) (c : Int) (ev : Value) (hp : p < m) (hm : m ≤ 512) (hj : Js w j r (.slice (some ⟨x, 0, none⟩) m 512) p ev) (hc : w.cell? ⟨x, p, none⟩ = some (.int .u8 c)) :
    Calls Tryz.prog 47 #[.pointer (some ⟨j, 0, none⟩)] w fun e w' => e = .returned (.tuple #[.int .u8 c, .nilIface]) ∧ ∃ n, w' = (w.drewN n).setCell ⟨j, 2, none⟩ (.int .i64 ((p : Int) + 1)) := by
  obtain ⟨c0, c1, c2, c3, cf⟩ := cell4 hj
  have cf2 := cf 2
  have hp1 : (p : Int) < m := by omega
  have hp2 : (0 : Int) ≤ p := by omega
  have hm1 : (m : Int) ≤ 512 := by omega
  have hd : decide ((p : Int) ≥ m) = false := by simp; omega
  clear cf hj
  go_enter Tryz.func47, Tryz.ntmps47
  go_wp2
  go_quiet (fail)
  go_wp2
  go_quiet (fail)
  go_wp2
  go_ret2
  exact ⟨rfl, _, rfl⟩

theorem nb_fill (w : World) (j r l p : Nat) (bv : Value) (ao : Option Addr) (cc : Nat) (hbv : bv = .slice ao l cc) (ev : Value) (hlp : l ≤ p) (hj : Js w j r bv p ev) (c : Int) (R : World → Prop)
    (hfill : ∀ n, Calls Tryz.prog 65 #[.pointer (some ⟨j, 0, none⟩)] (w.drewN n) fun e w' => e = .returned .nilIface ∧ ∃ x k, Js w' j r (.slice (some ⟨x, 0, none⟩) k 512) 0 .nilIface ∧ 0 < k ∧ k ≤ 512 ∧ w'.cell? ⟨x, 0, none⟩ = some (.int .u8 c) ∧ R w') :
    Calls Tryz.prog 47 #[.pointer (some ⟨j, 0, none⟩)] w fun e w' => e = .returned (.tuple #[.int .u8 c, .nilIface]) ∧ ∃ w1 n, R w1 ∧ w' = (w1.drewN n).setCell ⟨j, 2, none⟩ (.int .i64 1) := by
  subst hbv
  obtain ⟨c0, c1, c2, c3, cf⟩ := cell4 hj
  have hd : (l : Int) ≤ p := by omega
  have HF := Lib.hid hfill
  clear cf hj hfill
  go_enter Tryz.func47, Tryz.ntmps47
  go_wp2
  go_quiet (fail)
  go_wp2_with (go_at_call 65; refine (HF.out _).mono ?_; rintro e w1 ⟨rfl, x, k, hj1, hk0, hk1, hx, hR⟩; obtain ⟨c0, c1, c2, c3, cf⟩ := cell4 hj1; have cf2 := cf 2; have hk2 : (0 : Int) < k := (by omega); have HR := Lib.hid hR; clear cf hj1 hR)
  go_quiet (fail)
  go_wp2
  go_ret2
  exact ⟨rfl, w1, _, HR.out, rfl⟩

theorem nb_end (w : World) (j r l p : Nat) (bv : Value) (ao : Option Addr) (cc : Nat) (hbv : bv = .slice ao l cc) (ev : Value) (hlp : l ≤ p) (hj : Js w j r bv p ev) (ea : Addr) (R : World → Prop)
    (hfill : ∀ n, Calls Tryz.prog 65 #[.pointer (some ⟨j, 0, none⟩)] (w.drewN n) fun e w' => e = .returned (EOFv ea) ∧ R w') :
    Calls Tryz.prog 47 #[.pointer (some ⟨j, 0, none⟩)] w fun e w' => e = .returned (.tuple #[.int .u8 0, EOFv ea]) ∧ R w' := by
  subst hbv
  obtain ⟨c0, c1, c2, c3, cf⟩ := cell4 hj
  have hd : (l : Int) ≤ p := by omega
  have HF := Lib.hid hfill
  clear cf hj hfill
  go_enter Tryz.func47, Tryz.ntmps47
  go_wp2
  go_quiet (fail)
  go_wp2_with (go_at_call 65; refine (HF.out _).mono ?_; rintro e w1 ⟨rfl, hR⟩; have HR := Lib.hid hR; clear hR)
  go_ret2
  exact ⟨rfl, HR.out⟩

theorem Sc.St.buf_lt {s : Sc} {g : Option Nat} {q p : Nat} {w : World} (h : s.St g q p w) {x : Nat} (hx : g = some x) : x < w.heap.size := h.lt x (.inr (.inr (.inr (.inr hx.symm))))

/-- The blocks of a scanner are apart. -/
theorem Sc.St.apart {s : Sc} {g : Option Nat} {q p : Nat} {w : World} (h : s.St g q p w) : s.j ≠ s.t ∧ s.r ≠ s.t ∧ s.j ≠ s.r ∧ (∀ x, g = some x → x ≠ s.j ∧ x ≠ s.r) := by
  obtain ⟨bv, ev, hj⟩ := h.js
  obtain ⟨c, f, ht, _⟩ := h.row
  have hr : ∃ i, Rd w s.r s.t s.T.length s.tc i := by
    rcases h.at_ with ⟨_, _, _, d, _⟩ | ⟨x, a, m, _, _, _, _, _, _, _, _, k, _, _⟩ | ⟨x, _, _, _, c, _, d⟩
    · exact ⟨_, d⟩
    · exact ⟨_, k⟩
    · exact ⟨_, d⟩
  obtain ⟨i, pr, hr⟩ := hr
  have hb : ∀ x, g = some x → ∃ bs, Buf w x bs := by
    intro x hx
    rcases h.at_ with ⟨a, _⟩ | ⟨y, a, m, hy, _, _, _, _, _, _, _, _, _, n⟩ | ⟨y, hy, _, _, _, n, _⟩
    · rw [a] at hx; cases hx
    · obtain rfl : x = y := by rw [hy] at hx; injection hx with hx; exact hx.symm
      exact ⟨_, n⟩
    · obtain rfl : x = y := by rw [hy] at hx; injection hx with hx; exact hx.symm
      exact ⟨_, n⟩
  unfold Js at hj
  refine ⟨?_, ?_, ?_, fun x hx => ?_⟩
  · intro e; rw [e, ht] at hj; simp at hj
  · intro e; rw [e, ht] at hr; simp at hr
  · intro e; rw [e, hr] at hj; simp at hj
  · obtain ⟨bs, cur, hc, _⟩ := hb x hx
    constructor
    · intro e; rw [e, hj] at hc; simp at hc
    · intro e; rw [e, hr] at hc; simp at hc

theorem byte_at (T : List UInt8) (a m p : Nat) (hp : p < m) (ham : a + m ≤ T.length) : ∃ h : p < ((T.drop a).take m).length, ((T.drop a).take m)[p]'h = T[a + p]'(by omega) := by
  have h : p < ((T.drop a).take m).length := by simp; omega
  refine ⟨h, by simp⟩

set_option linter.unusedSimpArgs false in
/-- The next byte, where there is one. -/
theorem Sc.St.next {s : Sc} {g : Option Nat} {q p : Nat} {w : World} (h : s.St g q p w) (hq : q < s.T.length) :
    Calls Tryz.prog 47 #[.pointer (some ⟨s.j, 0, none⟩)] w fun e w' => e = .returned (.tuple #[.int .u8 ((s.T[q]'hq).toNat : Int), .nilIface]) ∧ ∃ g', s.St g' (q + 1) (q % 512 + 1) w' ∧ Fr (s.S g) w w' ∧ gOk g g' w := by
  obtain ⟨hjt, hrt, hjr, hgx⟩ := h.apart
  have hlt := h.lt
  rcases h.at_ with ⟨hg, rfl, rfl, hr, hj⟩ | ⟨x, a, m, hg, hqa, hpm, hm0, hm1, ha, ham, hmm, hr, hj, hb⟩ | ⟨x, hg, hqn, _⟩
  · -- the first byte of all
    refine (nb_fill w s.j s.r 0 0 _ none 0 rfl _ (Nat.le_refl _) hj ((s.T[0]'hq).toNat) (fun w' => Js w' s.j s.r (.slice (some ⟨w.heap.size, 0, none⟩) (min s.T.length 512) 512) 0 .nilIface ∧ Rd w' s.r s.t s.T.length s.tc (min s.T.length 512) ∧ Buf w' w.heap.size (s.T.take (min s.T.length 512)) ∧ Fr (fun x => x = s.j ∨ x = s.r) w w') ?_).mono ?_
    · intro n
      refine (fill_fresh_more s.T (w.drewN n) s.j s.r s.t s.tc _ hj hr h.row hq h.hn h.htc rfl).mono ?_
      rintro e w' ⟨rfl, h1, h2, h3, h4⟩
      refine ⟨rfl, w.heap.size, _, h1, by omega, by omega, ?_, h1, h2, h3, ⟨h4.os, h4.tape, h4.output, h4.size, h4.block⟩⟩
      obtain ⟨hl, he⟩ := byte_at s.T 0 (min s.T.length 512) 0 (by omega) (by omega)
      have := Buf.cell h3 0 (by simpa using hl)
      simpa using this
    · rintro e w' ⟨rfl, w1, n, ⟨h1, h2, h3, h4⟩, rfl⟩
      have hxs : w.heap.size ≠ s.j := Ne.symm (Nat.ne_of_lt (hlt s.j (.inr (.inr (.inl rfl)))))
      have hxt : w.heap.size ≠ s.t := Ne.symm (Nat.ne_of_lt (hlt s.t (.inr (.inl rfl))))
      have hx1 : w.heap.size ≠ 1 := Ne.symm (Nat.ne_of_lt (hlt 1 (.inl rfl)))
      refine ⟨rfl, some w.heap.size, ⟨?_, ?_, h.hn, h.htc, ⟨h.h1.1, h.h1.2.1, fun x hx => by injection hx with hx; subst hx; exact ⟨hx1, hxt⟩⟩, .inr (.inl ⟨w.heap.size, 0, min s.T.length 512, rfl, rfl, by omega, by omega, by omega, rfl, by omega, by omega, ?_, ?_, ?_⟩)⟩, ?_, .inr ⟨hg, _, rfl, Nat.le_refl _⟩⟩
      · exact h.row.of_heap ((heap_set_ne (Ne.symm hjt)).trans (h4.block _ (hlt _ (.inr (.inl rfl))) (by rintro (h | h) <;> simp_all)))
      · exact (World.cell?_of_block (a := ⟨1, 0, none⟩) ((heap_set_ne (Ne.symm h.h1.1)).trans (h4.block _ (hlt _ (.inl rfl)) (by rintro (h' | h'); exact h.h1.1 h'.symm; exact h.h1.2.1 h'.symm)))).trans h.eof
      · exact (by simpa using h2 : Rd w1 s.r s.t s.T.length s.tc (0 + min s.T.length 512)).of_heap (heap_set_ne (Ne.symm hjr))
      · exact (heap_set (o := 2) h1).trans (by simp)
      · exact (by simpa using h3 : Buf w1 w.heap.size ((s.T.drop 0).take (min s.T.length 512))).of_heap (heap_set_ne hxs)
      · refine Fr.setCell (Fr.drewN (h4.mono ?_) _) (.inl (.inl rfl)) _
        rintro i _ (h | h)
        · exact .inl h
        · exact .inr (.inl h)
  · obtain ⟨hxj, hxr⟩ := hgx x hg
    by_cases hlt' : p < m
    · -- in the row
      obtain ⟨hl, he⟩ := byte_at s.T a m p hlt' ham
      have hc := hb.cell p hl
      rw [he] at hc
      subst hqa
      refine (nb_direct w s.j s.r x m p _ _ hlt' hm1 hj hc).mono ?_
      rintro e w' ⟨rfl, n, rfl⟩
      have hp512 : (a + p) % 512 = p := by omega
      refine ⟨rfl, g, ⟨?_, ?_, h.hn, h.htc, h.h1, .inr (.inl ⟨x, a, m, hg, by omega, by omega, hm0, hm1, ha, ham, hmm, ?_, ?_, ?_⟩)⟩, ?_, .inl rfl⟩
      · exact h.row.of_heap (heap_set_ne (w := w.drewN n) (Ne.symm hjt))
      · exact (World.cell?_of_block (a := ⟨1, 0, none⟩) (heap_set_ne (w := w.drewN n) (Ne.symm h.h1.1))).trans h.eof
      · exact hr.of_heap (heap_set_ne (w := w.drewN n) (Ne.symm hjr))
      · rw [hp512]
        exact (heap_set (w := w.drewN n) (o := 2) hj).trans (by simp)
      · exact hb.of_heap (heap_set_ne (w := w.drewN n) hxj)
      · exact Fr.setCell (Fr.drewN (Fr.refl _ _) _) (.inl (.inl rfl)) _
    · -- the next 512
      obtain rfl : p = m := by omega
      obtain rfl : p = 512 := by omega
      subst hqa
      refine (nb_fill w s.j s.r 512 512 _ (some ⟨x, 0, none⟩) 512 rfl _ (Nat.le_refl _) hj ((s.T[a + 512]'hq).toNat) (fun w' => Js w' s.j s.r (.slice (some ⟨x, 0, none⟩) (min (s.T.length - (a + 512)) 512) 512) 0 .nilIface ∧ Rd w' s.r s.t s.T.length s.tc (a + 512 + min (s.T.length - (a + 512)) 512) ∧ Buf w' x ((s.T.drop (a + 512)).take (min (s.T.length - (a + 512)) 512)) ∧ Fr (fun k => k = s.j ∨ k = s.r ∨ k = x) w w') ?_).mono ?_
      · intro n
        refine (fill_chunk_more s.T (w.drewN n) s.j s.r x s.t s.tc (a + 512) 512 512 _ _ hj hr h.row hb hq h.hn h.htc rfl).mono ?_
        rintro e w' ⟨rfl, h1, h2, h3, h4, h5⟩
        refine ⟨rfl, x, _, h1, by omega, by omega, ?_, h1, h2, h3, ⟨h5.os, h5.tape, h5.output, h5.size, h5.block⟩⟩
        obtain ⟨hl, he⟩ := byte_at s.T (a + 512) (min (s.T.length - (a + 512)) 512) 0 (by omega) (by omega)
        have := Buf.cell h3 0 hl
        rw [he] at this
        simpa using this
      · rintro e w' ⟨rfl, w1, n, ⟨h1, h2, h3, h4⟩, rfl⟩
        obtain ⟨hx1, hxt⟩ := h.h1.2.2 x hg
        have hm512 : (a + 512) % 512 = 0 := by omega
        refine ⟨rfl, g, ⟨?_, ?_, h.hn, h.htc, h.h1, .inr (.inl ⟨x, a + 512, min (s.T.length - (a + 512)) 512, hg, by omega, by omega, by omega, by omega, by omega, by omega, by omega, ?_, ?_, ?_⟩)⟩, ?_, .inl rfl⟩
        · exact h.row.of_heap ((heap_set_ne (Ne.symm hjt)).trans (h4.block _ (hlt _ (.inr (.inl rfl))) (by rintro (h | h | h) <;> simp_all)))
        · exact (World.cell?_of_block (a := ⟨1, 0, none⟩) ((heap_set_ne (Ne.symm h.h1.1)).trans (h4.block _ (hlt _ (.inl rfl)) (by rintro (h' | h' | h'); exact h.h1.1 h'.symm; exact h.h1.2.1 h'.symm; exact hx1 h'.symm)))).trans h.eof
        · exact h2.of_heap (heap_set_ne (Ne.symm hjr))
        · rw [hm512]
          exact (heap_set (o := 2) h1).trans (by simp)
        · exact h3.of_heap (heap_set_ne hxj)
        · refine Fr.setCell (Fr.drewN (h4.mono ?_) _) (.inl (.inl rfl)) _
          rintro i _ (h | h | h)
          · exact .inl h
          · exact .inr (.inl h)
          · exact .inr (.inr (by rw [h, hg]))
  · omega

theorem Sc.St.stay {s : Sc} {g : Option Nat} {q p : Nat} {w w' : World} (h : s.St g q p w) (hf : Fr (fun x => x = s.j) w w') : Row w' s.t s.T ∧ w'.cell? ⟨1, 0, none⟩ = some (EOFv s.ea) ∧ w'.heap[s.r]? = w.heap[s.r]? ∧ (∀ x, g = some x → w'.heap[x]? = w.heap[x]?) := by
  obtain ⟨hjt, hrt, hjr, hgx⟩ := h.apart
  have hlt := h.lt
  refine ⟨h.row.of_heap (hf.block _ (hlt _ (.inr (.inl rfl))) (fun e => hjt e.symm)), (World.cell?_of_block (a := ⟨1, 0, none⟩) (hf.block _ (hlt _ (.inl rfl)) (fun e => h.h1.1 e.symm))).trans h.eof, hf.block _ (hlt _ (.inr (.inr (.inr (.inl rfl))))) (fun e => hjr e.symm), fun x hx => hf.block _ (h.buf_lt hx) (hgx x hx).1⟩

/-- At the text's end: io.EOF. -/
theorem Sc.St.end_ {s : Sc} {g : Option Nat} {p : Nat} {w : World} (h : s.St g s.T.length p w) :
    Calls Tryz.prog 47 #[.pointer (some ⟨s.j, 0, none⟩)] w fun e w' => e = .returned (.tuple #[.int .u8 0, EOFv s.ea]) ∧ ∃ g', s.St g' s.T.length 0 w' ∧ Fr (s.S g) w w' ∧ gOk g g' w := by
  obtain ⟨hjt, hrt, hjr, hgx⟩ := h.apart
  have hlt := h.lt
  have hmono : ∀ w', Fr (fun x => x = s.j) w w' → Fr (s.S g) w w' := fun w' hf => hf.mono (fun i _ h => .inl h)
  rcases h.at_ with ⟨hg, hq, rfl, hr, hj⟩ | ⟨x, a, m, hg, hqa, hpm, hm0, hm1, ha, ham, hmm, hr, hj, hb⟩ | ⟨x, hg, hqn, rfl, hj, hb, hr⟩
  · refine (nb_end w s.j s.r 0 0 _ none 0 rfl _ (Nat.le_refl _) hj s.ea (fun w' => Js w' s.j s.r (.slice (some ⟨w.heap.size, 0, none⟩) 0 512) 0 (EOFv s.ea) ∧ Buf w' w.heap.size [] ∧ Fr (fun x => x = s.j) w w') ?_).mono ?_
    · intro n
      have hr' := hr
      rw [hq] at hr'
      refine (fill_fresh_end (w.drewN n) s.j s.r s.t s.tc s.ea h.eof h.h1.1 hj hr').mono ?_
      rintro e w' ⟨rfl, h1, h2, h3⟩
      exact ⟨rfl, h1, h2, ⟨h3.os, h3.tape, h3.output, h3.size, h3.block⟩⟩
    · rintro e w' ⟨rfl, h1, h2, h3⟩
      have hxs : w.heap.size ≠ s.t := Ne.symm (Nat.ne_of_lt (hlt s.t (.inr (.inl rfl))))
      have hx1 : w.heap.size ≠ 1 := Ne.symm (Nat.ne_of_lt (hlt 1 (.inl rfl)))
      obtain ⟨k1, k2, k3, k4⟩ := h.stay h3
      have h4 : Rd w' s.r s.t s.T.length s.tc s.T.length := by rw [hq]; rw [hq] at hr; exact hr.of_heap k3
      exact ⟨rfl, some w.heap.size, ⟨k1, k2, h.hn, h.htc, ⟨h.h1.1, h.h1.2.1, fun x hx => by injection hx with hx; subst hx; exact ⟨hx1, hxs⟩⟩, .inr (.inr ⟨_, rfl, rfl, rfl, h1, h2, h4⟩)⟩, hmono _ h3, .inr ⟨hg, _, rfl, Nat.le_refl _⟩⟩
  · obtain rfl : p = m := by omega
    have ham' : a + p = s.T.length := by omega
    refine (nb_end w s.j s.r p p _ (some ⟨x, 0, none⟩) 512 rfl _ (Nat.le_refl _) hj s.ea (fun w' => Js w' s.j s.r (.slice (some ⟨x, 0, none⟩) 0 512) 0 (EOFv s.ea) ∧ Fr (fun x => x = s.j) w w') ?_).mono ?_
    · intro n
      have hr' := hr
      rw [ham'] at hr'
      refine (fill_chunk_end (w.drewN n) s.j s.r x s.t s.tc s.T.length p p _ s.ea h.eof hj hr' hb).mono ?_
      rintro e w' ⟨rfl, h1, _, h3⟩
      exact ⟨rfl, h1, ⟨h3.os, h3.tape, h3.output, h3.size, h3.block⟩⟩
    · rintro e w' ⟨rfl, h1, h3⟩
      obtain ⟨k1, k2, k3, k4⟩ := h.stay h3
      have hr' := hr
      rw [ham'] at hr'
      exact ⟨rfl, g, ⟨k1, k2, h.hn, h.htc, h.h1, .inr (.inr ⟨x, hg, rfl, rfl, h1, (hb.of_heap (k4 x hg)).nil, hr'.of_heap k3⟩)⟩, hmono _ h3, .inl rfl⟩
  · refine (nb_end w s.j s.r 0 0 _ (some ⟨x, 0, none⟩) 512 rfl _ (Nat.le_refl _) hj s.ea (fun w' => Js w' s.j s.r (.slice (some ⟨x, 0, none⟩) 0 512) 0 (EOFv s.ea) ∧ Fr (fun x => x = s.j) w w') ?_).mono ?_
    · intro n
      refine (fill_eof (w.drewN n) s.j s.r x 0 0 s.ea hj).mono ?_
      rintro e w' ⟨rfl, h1, _, h3⟩
      exact ⟨rfl, h1, ⟨h3.os, h3.tape, h3.output, h3.size, h3.block⟩⟩
    · rintro e w' ⟨rfl, h1, h3⟩
      obtain ⟨k1, k2, k3, k4⟩ := h.stay h3
      exact ⟨rfl, g, ⟨k1, k2, h.hn, h.htc, h.h1, .inr (.inr ⟨x, hg, rfl, rfl, h1, (hb.of_heap (k4 x hg)).nil, hr.of_heap k3⟩)⟩, hmono _ h3, .inl rfl⟩

end Go.Proofs.YtdabllkphibfmaaGreatDoor
