/- The writer's state: its struct, what it has written, its stack. -/
import Derived.Test.YtpkfdbhpmhahaaaGreatDoorGa
import Derived.Deep.AppendLies
import Derived.Deep.OwnRows
import Derived.StillTailTactics
import Derived.Test.YtpkfdbhpmhahaaaGreatDoorShf
import Derived.Lib.LaidTab
import GoSem.PinnedTables
import Derived.Lib.BufferOld
namespace Go.Proofs.YtpkfdbhpmhahaaaGreatDoor
open Go Go.RowKit
set_option linter.unusedSimpArgs false
set_option linter.unusedVariables false

/-- The cells of the writer's struct. -/
def wcells (iv bv sv : Value) (fr : Int) (can : Bool) : Array Value := #[iv, bv, sv, .int .i64 fr, .bool can, .bool false, .bool true]

/-- The writer stands in block gw; it has written bs; its modes are ms0, then m. -/
structure Wr (base gw : Nat) (iv : Value) (can : Bool) (bs : List UInt8) (ms0 : List Int) (m : Int) (bv : Value) (gs n cap : Nat) (w : World) : Prop where
  hgw : base ≤ gw
  hgs : base ≤ gs
  blk : w.heap[gw]? = some (.cells (wcells iv bv (.slice (some ⟨gs, 0, none⟩) n cap) (ms0.length : Nat) can) 67 (0, 0))
  buf : w.ownsRow base 5 1 bv bs.length (Lib.byteCells bs)
  stk : ∃ cur : List Value, w.heap[gs]? = some (.cells cur.toArray 64 (0, 0)) ∧ cur.length = cap ∧ (∀ i (h : i < ms0.length), cur[i]? = some (.int .i64 ms0[i])) ∧ cur[ms0.length]? = some (.int .i64 m) ∧ (∀ v ∈ cur, ∃ k : Int, v = .int .i64 k)
  nle : ms0.length + 1 ≤ n
  ncap : n ≤ cap
  capb : cap ≤ 2000
  ne1 : gs ≠ gw
  ne2 : bv.ownBlock ≠ some gw
  ne3 : bv.ownBlock ≠ some gs

/-- What is not the writer's is as it was. -/
structure Fw (gw gs : Nat) (bv : Value) (w w' : World) : Prop where
  os : w'.os = w.os
  tape : w'.tape = w.tape
  output : w'.output = w.output
  size : w.heap.size ≤ w'.heap.size
  block : ∀ k, k < w.heap.size → k ≠ gw → k ≠ gs → bv.ownBlock ≠ some k → w'.heap[k]? = w.heap[k]?

/-- From the world w on the writer has come to bs, ms0, m. -/
def WrTo (base gw : Nat) (iv : Value) (can : Bool) (bs : List UInt8) (ms0 : List Int) (m : Int) (bv : Value) (gs : Nat) (w w' : World) : Prop :=
  ∃ bv' gs' n' cap', Wr base gw iv can bs ms0 m bv' gs' n' cap' w' ∧ Fw gw gs bv w w' ∧ (gs' = gs ∨ w.heap.size ≤ gs') ∧ (∀ k, bv'.ownBlock = some k → bv.ownBlock = some k ∨ w.heap.size ≤ k)

theorem Fw.refl (gw gs : Nat) (bv : Value) (w : World) : Fw gw gs bv w w := ⟨rfl, rfl, rfl, Nat.le_refl _, fun _ _ _ _ _ => rfl⟩
theorem Fw.trans {gw gs gs' : Nat} {bv bv' : Value} {a b c : World} (h : Fw gw gs bv a b) (k : Fw gw gs' bv' b c) (hg : gs' = gs ∨ a.heap.size ≤ gs') (hb : ∀ k, bv'.ownBlock = some k → bv.ownBlock = some k ∨ a.heap.size ≤ k) : Fw gw gs bv a c :=
  ⟨k.os.trans h.os, k.tape.trans h.tape, k.output.trans h.output, Nat.le_trans h.size k.size, fun i hi h1 h2 h3 => (k.block i (Nat.lt_of_lt_of_le hi h.size) h1 (by omega) (fun e => by
    rcases hb i e with e2 | e2
    · exact h3 e2
    · omega)).trans (h.block i hi h1 h2 h3)⟩
/-- What is done beside the writer: new blocks, draws. -/
theorem Fw.bel {gw gs : Nat} {bv : Value} {w w' : World} (h : Below w.heap.size w w') : Fw gw gs bv w w' := ⟨h.os, h.tape, h.output, h.size, fun k hk _ _ _ => h.block k hk⟩

section
variable {base gw : Nat} {iv : Value} {can : Bool} {bs : List UInt8} {ms0 : List Int} {m : Int} {bv : Value} {gs n cap : Nat} {w w' : World}

theorem Wr.lt (h : Wr base gw iv can bs ms0 m bv gs n cap w) : gw < w.heap.size ∧ gs < w.heap.size ∧ (∀ k, bv.ownBlock = some k → base ≤ k ∧ k < w.heap.size) ∧ base ≤ w.heap.size := by
  obtain ⟨cur, hc, _⟩ := h.stk
  have h1 := lt_of_heap h.blk
  exact ⟨h1, lt_of_heap hc, fun k hk => h.buf.lt k hk, Nat.le_trans h.hgw (Nat.le_of_lt h1)⟩

/-- The writer stays as it stands where its blocks do. -/
theorem Wr.stays (h : Wr base gw iv can bs ms0 m bv gs n cap w) (hk : ∀ k, k = gw ∨ k = gs ∨ bv.ownBlock = some k → w'.heap[k]? = w.heap[k]?) : Wr base gw iv can bs ms0 m bv gs n cap w' := by
  obtain ⟨cur, hc, h1⟩ := h.stk
  exact ⟨h.hgw, h.hgs, (hk gw (.inl rfl)).trans h.blk, ownsRow_of h.buf fun k hk' => hk k (.inr (.inr hk')), ⟨cur, (hk gs (.inr (.inl rfl))).trans hc, h1⟩, h.nle, h.ncap, h.capb, h.ne1, h.ne2, h.ne3⟩
theorem Wr.bel (h : Wr base gw iv can bs ms0 m bv gs n cap w) (hb : Below w.heap.size w w') : Wr base gw iv can bs ms0 m bv gs n cap w' := by
  obtain ⟨h1, h2, h3, _⟩ := h.lt
  refine h.stays fun k hk => hb.block k ?_
  rcases hk with rfl | rfl | hk
  · exact h1
  · exact h2
  · exact (h3 k hk).2
theorem Wr.to (h : Wr base gw iv can bs ms0 m bv gs n cap w) : WrTo base gw iv can bs ms0 m bv gs w w := ⟨bv, gs, n, cap, h, Fw.refl _ _ _ _, .inl rfl, fun _ hk => .inl hk⟩
theorem Wr.to_bel (h : Wr base gw iv can bs ms0 m bv gs n cap w) (hb : Below w.heap.size w w') : WrTo base gw iv can bs ms0 m bv gs w w' := ⟨bv, gs, n, cap, h.bel hb, Fw.bel hb, .inl rfl, fun _ hk => .inl hk⟩

/-- Two ways, one behind the other. -/
theorem WrTo.trans {bs2 : List UInt8} {ms2 : List Int} {m2 : Int} {w2 : World} (h : ∃ bv1 gs1 n1 cap1, Wr base gw iv can bs ms0 m bv1 gs1 n1 cap1 w' ∧ Fw gw gs bv w w' ∧ (gs1 = gs ∨ w.heap.size ≤ gs1) ∧ (∀ k, bv1.ownBlock = some k → bv.ownBlock = some k ∨ w.heap.size ≤ k) ∧ WrTo base gw iv can bs2 ms2 m2 bv1 gs1 w' w2) :
    WrTo base gw iv can bs2 ms2 m2 bv gs w w2 := by
  obtain ⟨bv1, gs1, n1, cap1, _, hf, hg, hb, bv2, gs2, n2, cap2, h2, hf2, hg2, hb2⟩ := h
  refine ⟨bv2, gs2, n2, cap2, h2, hf.trans hf2 hg hb, ?_, fun k hk => ?_⟩
  · have := hf.size; omega
  · rcases hb2 k hk with e | e
    · exact hb k e
    · have := hf.size; exact .inr (by omega)

theorem wcell {sv : Value} {fr : Int} (h : w.heap[gw]? = some (.cells (wcells iv bv sv fr can) 67 (0, 0))) : w.cell? ⟨gw, 0, none⟩ = some iv ∧ w.cell? ⟨gw, 1, none⟩ = some bv ∧ w.cell? ⟨gw, 2, none⟩ = some sv ∧ w.cell? ⟨gw, 3, none⟩ = some (.int .i64 fr) ∧ w.cell? ⟨gw, 4, none⟩ = some (.bool can) ∧ w.cell? ⟨gw, 5, none⟩ = some (.bool false) ∧ w.cell? ⟨gw, 6, none⟩ = some (.bool true) ∧ (∀ o, w.frozen? ⟨gw, o, none⟩ = false) := by
  refine ⟨?_, ?_, ?_, ?_, ?_, ?_, ?_, fun o => ?_⟩ <;> simp [World.cell?, World.frozen?, h, wcells]
theorem Wr.top (h : Wr base gw iv can bs ms0 m bv gs n cap w) : w.cell? ⟨gs, ms0.length, none⟩ = some (.int .i64 m) ∧ (∀ o, w.frozen? ⟨gs, o, none⟩ = false) := by
  obtain ⟨cur, hc, _, _, h1, _⟩ := h.stk
  refine ⟨?_, fun o => by simp [World.frozen?, hc]⟩
  simp [World.cell?, hc]
  exact h1

/-- The writer's bytes go on: behind the append its new row is stored. -/
theorem Wr.appended {l : List UInt8} {wa w1 : World} {g cap1 : Nat} (h : Wr base gw iv can bs ms0 m bv gs n cap w) (hb : Below w.heap.size w wa) (ho : w1.ownsRow base 5 1 (.slice (some ⟨g, 0, none⟩) (bs.length + l.length) cap1) (bs.length + l.length) (Lib.byteCells bs ++ Lib.byteCells l)) (hg : wa.grownBy w1 bv.ownBlock) (hat : bv.ownBlock = some g ∨ g = wa.heap.size) :
    WrTo base gw iv can (bs ++ l) ms0 m bv gs w (w1.setCell ⟨gw, 1, none⟩ (.slice (some ⟨g, 0, none⟩) (bs.length + l.length) cap1)) := by
  obtain ⟨h1, h2, h3, h4⟩ := h.lt
  have hs := hb.size
  have hs2 := hg.size
  have hgne : g ≠ gw := by
    rcases hat with e | rfl
    · rintro rfl; exact h.ne2 e
    · omega
  have hgns : g ≠ gs := by
    rcases hat with e | rfl
    · rintro rfl; exact h.ne3 e
    · omega
  have hk : ∀ k, k < w.heap.size → k ≠ gw → bv.ownBlock ≠ some k → (w1.setCell ⟨gw, 1, none⟩ (.slice (some ⟨g, 0, none⟩) (bs.length + l.length) cap1)).heap[k]? = w.heap[k]? := fun k hk h5 h6 =>
    (heap_set_ne h5).trans ((hg.block k (by omega) (fun e => h6 e.symm)).trans (hb.block k hk))
  have hblk : w1.heap[gw]? = some (.cells (wcells iv bv (.slice (some ⟨gs, 0, none⟩) n cap) (ms0.length : Nat) can) 67 (0, 0)) := (hg.block gw (by omega) (fun e => h.ne2 e.symm)).trans ((hb.block gw h1).trans h.blk)
  obtain ⟨cur, hc, hr⟩ := h.stk
  refine ⟨_, gs, n, cap, ⟨h.hgw, h.hgs, by rw [heap_set hblk]; rfl, ?_, ⟨cur, (hk gs h2 h.ne1 h.ne3).trans hc, hr⟩, h.nle, h.ncap, h.capb, h.ne1, by simpa [Value.ownBlock] using hgne, by simpa [Value.ownBlock] using hgns⟩, ⟨hg.os.trans hb.os, hg.tape.trans hb.tape, hg.output.trans hb.output, by simp [World.setCell]; omega, fun k hk1 hk2 _ hk4 => hk k hk1 hk2 hk4⟩, .inl rfl, fun k hk1 => ?_⟩
  · have e : Lib.byteCells (bs ++ l) = Lib.byteCells bs ++ Lib.byteCells l := by simp [Lib.byteCells]
    rw [e, List.length_append]
    exact ownsRow_of ho fun q hq => heap_set_ne (by simp only [Value.ownBlock, Option.some.injEq] at hq; omega)
  · simp only [Value.ownBlock, Option.some.injEq] at hk1
    subst hk1
    rcases hat with e | e
    · exact .inl e
    · exact .inr (by omega)

/-- The writer's frame goes another way. -/
theorem Wr.moved {ms2 : List Int} {m2 : Int} (h : Wr base gw iv can bs ms0 m bv gs n cap w) (hlen : ms2.length + 1 ≤ n) (hs : ∀ cur : List Value, (∀ i (h : i < ms0.length), cur[i]? = some (.int .i64 ms0[i])) → cur[ms0.length]? = some (.int .i64 m) → (∀ i (h : i < ms2.length), cur[i]? = some (.int .i64 ms2[i])) ∧ cur[ms2.length]? = some (.int .i64 m2)) :
    WrTo base gw iv can bs ms2 m2 bv gs w (w.setCell ⟨gw, 3, none⟩ (.int .i64 (ms2.length : Nat))) := by
  obtain ⟨h1, h2, h3, h4⟩ := h.lt
  obtain ⟨cur, hc, hl, h5, h6, h7⟩ := h.stk
  obtain ⟨h8, h9⟩ := hs cur h5 h6
  exact ⟨bv, gs, n, cap, ⟨h.hgw, h.hgs, by rw [heap_set h.blk]; rfl, ownsRow_of h.buf fun k hk => heap_set_ne (by rintro rfl; exact h.ne2 hk), ⟨cur, (heap_set_ne h.ne1).trans hc, hl, h8, h9, h7⟩, hlen, h.ncap, h.capb, h.ne1, h.ne2, h.ne3⟩,
    ⟨rfl, rfl, rfl, by simp [World.setCell], fun k _ hk _ _ => heap_set_ne hk⟩, .inl rfl, fun _ hk => .inl hk⟩
end

end Go.Proofs.YtpkfdbhpmhahaaaGreatDoor

/- pop, ensureElementValue. -/
namespace Go.Proofs.YtpkfdbhpmhahaaaGreatDoor
open Go Go.RowKit
set_option linter.unusedSimpArgs false
set_option linter.unusedVariables false

section
variable {base gw : Nat} {iv : Value} {can : Bool} {bs : List UInt8} {ms0 : List Int} {m : Int} {bv : Value} {gs n cap : Nat} {w : World}

set_option maxRecDepth 100000 in
set_option maxHeartbeats 1000000 in
theorem Wr.ensure (h : Wr base gw iv can bs ms0 m bv gs n cap w) (hm : m = 4 ∨ m = 5) (dst : Int) (nm : ByteArray) (av : Value) :
    Calls Tryz.prog 22 #[.pointer (some ⟨gw, 0, none⟩), .int .i64 dst, .string nm, av] w (fun e w' => e = .returned .nilIface ∧ ∃ q, w' = w.drewN q) := by
  obtain ⟨c0, c1, c2, c3, c4, c5, c6, cf⟩ := wcell h.blk
  obtain ⟨t0, tf⟩ := h.top
  have hf0 : (0 : Int) ≤ (ms0.length : Nat) := by omega
  have hf1 : ((ms0.length : Nat) : Int) < (n : Nat) := by have := h.nle; omega
  clear h
  rcases hm with rfl | rfl
  · go_enter Tryz.func22, Tryz.ntmps22
    go_wp2
    go_quiet (fail)
    go_wp2
    go_ret
    exact ⟨rfl, _, rfl⟩
  · go_enter Tryz.func22, Tryz.ntmps22
    go_wp2
    go_quiet (fail)
    go_wp2
    go_ret
    exact ⟨rfl, _, rfl⟩

set_option maxRecDepth 100000 in
set_option maxHeartbeats 1000000 in
theorem Wr.pop1 {ms1 : List Int} {m1 : Int} (h : Wr base gw iv can bs (ms1 ++ [m1]) m bv gs n cap w) (hm : m = 4 ∨ m = 5) :
    Calls Tryz.prog 46 #[.pointer (some ⟨gw, 0, none⟩)] w (fun e w' => e = .returned (.tuple #[]) ∧ WrTo base gw iv can bs ms1 m1 bv gs w w') := by
  have HT : ∀ q, Hid (WrTo base gw iv can bs ms1 m1 bv gs w ((w.drewN q).setCell ⟨gw, 3, none⟩ (.int .i64 (ms1.length : Nat)))) := fun q => Lib.hid (by
    have hb : Below w.heap.size w (w.drewN q) := below_dn (Below.refl _ _) q
    refine WrTo.trans ⟨bv, gs, n, cap, h.bel hb, Fw.bel hb, .inl rfl, fun _ hk => .inl hk, (h.bel hb).moved (by have := h.nle; simp at this; omega) fun cur h1 h2 => ⟨fun i hi => ?_, ?_⟩⟩
    · have := h1 i (by simp; omega)
      rw [List.getElem_append_left hi] at this
      exact this
    · have := h1 ms1.length (by simp)
      simpa using this)
  obtain ⟨c0, c1, c2, c3, c4, c5, c6, cf⟩ := wcell h.blk
  obtain ⟨t0, tf⟩ := h.top
  have hlen : (ms1 ++ [m1]).length = ms1.length + 1 := by simp
  rw [hlen] at c3 t0
  have hf0 : (0 : Int) ≤ ((ms1.length + 1 : Nat) : Int) := by omega
  have hf1 : ((ms1.length + 1 : Nat) : Int) < (n : Nat) := by have := h.nle; rw [hlen] at this; omega
  have hl : ms1.length ≤ 2000 := by have := h.nle; have := h.ncap; have := h.capb; rw [hlen] at *; omega
  clear h hlen
  rcases hm with rfl | rfl
  all_goals
    go_enter Tryz.func46, Tryz.ntmps46
    go_wp2
    go_quiet (fail)
    go_wp2
    go_end0
    exact ⟨rfl, (HT _).out⟩

set_option maxRecDepth 100000 in
set_option maxHeartbeats 1000000 in
theorem Wr.pop2 {ms1 : List Int} {m1 m2 : Int} (h : Wr base gw iv can bs (ms1 ++ [m1, m2]) m bv gs n cap w) (hm : m = 2 ∨ m = 3 ∨ m = 6) :
    Calls Tryz.prog 46 #[.pointer (some ⟨gw, 0, none⟩)] w (fun e w' => e = .returned (.tuple #[]) ∧ WrTo base gw iv can bs ms1 m1 bv gs w w') := by
  have HT : ∀ q, Hid (WrTo base gw iv can bs ms1 m1 bv gs w ((w.drewN q).setCell ⟨gw, 3, none⟩ (.int .i64 (ms1.length : Nat)))) := fun q => Lib.hid (by
    have hb : Below w.heap.size w (w.drewN q) := below_dn (Below.refl _ _) q
    refine WrTo.trans ⟨bv, gs, n, cap, h.bel hb, Fw.bel hb, .inl rfl, fun _ hk => .inl hk, (h.bel hb).moved (by have := h.nle; simp at this; omega) fun cur h1 h2 => ⟨fun i hi => ?_, ?_⟩⟩
    · have := h1 i (by simp; omega)
      rw [List.getElem_append_left hi] at this
      exact this
    · have := h1 ms1.length (by simp)
      simpa using this)
  obtain ⟨c0, c1, c2, c3, c4, c5, c6, cf⟩ := wcell h.blk
  obtain ⟨t0, tf⟩ := h.top
  have hlen : (ms1 ++ [m1, m2]).length = ms1.length + 2 := by simp
  rw [hlen] at c3 t0
  have hf0 : (0 : Int) ≤ ((ms1.length + 2 : Nat) : Int) := by omega
  have hf1 : ((ms1.length + 2 : Nat) : Int) < (n : Nat) := by have := h.nle; rw [hlen] at this; omega
  have hl : ms1.length ≤ 2000 := by have := h.nle; have := h.ncap; have := h.capb; rw [hlen] at *; omega
  clear h hlen
  rcases hm with rfl | rfl | rfl
  all_goals
    go_enter Tryz.func46, Tryz.ntmps46
    go_wp2
    go_quiet (fail)
    go_wp2
    go_end0
    exact ⟨rfl, (HT _).out⟩

set_option maxRecDepth 100000 in
set_option maxHeartbeats 1000000 in
theorem Wr.pop0 (h : Wr base gw iv can bs ms0 1 bv gs n cap w) :
    Calls Tryz.prog 46 #[.pointer (some ⟨gw, 0, none⟩)] w (fun e w' => e = .returned (.tuple #[]) ∧ ∃ q, w' = w.drewN q) := by
  obtain ⟨c0, c1, c2, c3, c4, c5, c6, cf⟩ := wcell h.blk
  obtain ⟨t0, tf⟩ := h.top
  have hf0 : (0 : Int) ≤ (ms0.length : Nat) := by omega
  have hf1 : ((ms0.length : Nat) : Int) < (n : Nat) := by have := h.nle; omega
  clear h
  go_enter Tryz.func46, Tryz.ntmps46
  go_wp2
  go_quiet (fail)
  go_wp2
  go_end0
  exact ⟨rfl, _, rfl⟩

theorem info64 : (Tryz.prog.info? 64).map (fun i => (i.zero, i.size, i.bytes)) = some (some (.agg #[.int .i64 0]), 1, 8) := by kernel_rfl
theorem size64 : (Tryz.prog.info? 64).map (·.size) = some 1 := by kernel_rfl

/-- The stack has grown, or not: what advanceFrame leaves, but for the frame. -/
theorem Wr.room (h : Wr base gw iv can bs ms0 m bv gs n cap w) (hn : ms0.length + 1 < n) :
    ∃ m', WrTo base gw iv can bs (ms0 ++ [m]) m' bv gs w (w.setCell ⟨gw, 3, none⟩ (.int .i64 (((ms0.length : Nat) : Int) + 1))) := by
  obtain ⟨cur, hc, hl, h5, h6, h7⟩ := h.stk
  have hlt : ms0.length + 1 < cur.length := by have := h.ncap; omega
  obtain ⟨k, hk⟩ := h7 _ (List.getElem_mem hlt)
  have hh := h
  obtain ⟨h1, h2, h3, h4⟩ := h.lt
  refine ⟨k, bv, gs, n, cap, ⟨h.hgw, h.hgs, ?_, ownsRow_of h.buf fun q hq => heap_set_ne (by rintro rfl; exact h.ne2 hq), ⟨cur, (heap_set_ne h.ne1).trans hc, hl, fun i hi => ?_, ?_, h7⟩, by simp; omega, h.ncap, h.capb, h.ne1, h.ne2, h.ne3⟩,
    ⟨rfl, rfl, rfl, by simp [World.setCell], fun k _ hk _ _ => heap_set_ne hk⟩, .inl rfl, fun _ hk => .inl hk⟩
  · rw [heap_set h.blk]
    simp [wcells]
  · simp only [List.length_append, List.length_cons, List.length_nil] at hi
    rcases Nat.lt_or_ge i ms0.length with h8 | h8
    · rw [List.getElem_append_left h8]; exact h5 i h8
    · obtain rfl : i = ms0.length := by omega
      simpa using h6
  · simp only [List.length_append, List.length_cons, List.length_nil, Nat.zero_add]
    rw [List.getElem?_eq_getElem hlt, hk]

theorem Wr.reslice (h : Wr base gw iv can bs ms0 m bv gs n cap w) {n' : Nat} (hn : ms0.length + 1 ≤ n') (hc : n' ≤ cap) : Wr base gw iv can bs ms0 m bv gs n' cap (w.setCell ⟨gw, 2, none⟩ (.slice (some ⟨gs, 0, none⟩) n' cap)) := by
  obtain ⟨cur, hc2, hr⟩ := h.stk
  exact ⟨h.hgw, h.hgs, by rw [heap_set h.blk]; rfl, ownsRow_of h.buf fun q hq => heap_set_ne (by rintro rfl; exact h.ne2 hq), ⟨cur, (heap_set_ne h.ne1).trans hc2, hr⟩, hn, hc, h.capb, h.ne1, h.ne2, h.ne3⟩
theorem Fw.set {gw gs : Nat} {bv : Value} (w : World) (o : Nat) (v : Value) : Fw gw gs bv w (w.setCell ⟨gw, o, none⟩ v) := ⟨rfl, rfl, rfl, by simp [World.setCell], fun k _ hk _ _ => heap_set_ne hk⟩

/-- The stack lies in a new block. -/
theorem Wr.newstack (h : Wr base gw iv can bs ms0 m bv gs n cap w) {w2 : World} {g n' N : Nat} (cur cur2 : List Value) (hc : w.heap[gs]? = some (.cells cur.toArray 64 (0, 0))) (hk : ∀ k, k < w.heap.size → w2.heap[k]? = w.heap[k]?) (hg : w.heap.size ≤ g) (hg2 : w2.heap[g]? = some (.cells cur2.toArray 64 (0, 0)))
    (hN : cur2.length = N) (hNb : N ≤ 2000) (hn1 : n ≤ n') (hn2 : n' ≤ N) (hpre : ∀ i, i < n → cur2[i]? = cur[i]?) (hint : ∀ v ∈ cur2, ∃ k : Int, v = .int .i64 k) :
    Wr base gw iv can bs ms0 m bv g n' N (w2.setCell ⟨gw, 2, none⟩ (.slice (some ⟨g, 0, none⟩) n' N)) := by
  obtain ⟨h1, h2, h3, h4⟩ := h.lt
  obtain ⟨cur', hc', hl, h5, h6, h7⟩ := h.stk
  have e : cur' = cur := by
    rw [hc] at hc'
    simp only [Option.some.injEq, Obj.cells.injEq, and_true] at hc'
    exact (Array.toList_inj.2 hc').symm
  subst e
  have hb : w2.heap[gw]? = some (.cells (wcells iv bv (.slice (some ⟨gs, 0, none⟩) n cap) (ms0.length : Nat) can) 67 (0, 0)) := (hk gw h1).trans h.blk
  refine ⟨h.hgw, by omega, by rw [heap_set hb]; rfl, ownsRow_of h.buf fun q hq => (heap_set_ne (by rintro rfl; exact h.ne2 hq)).trans (hk q (h3 q hq).2), ⟨cur2, (heap_set_ne (by omega)).trans hg2, hN, fun i hi => ?_, ?_, hint⟩, Nat.le_trans h.nle hn1, hn2, hNb, by omega, h.ne2, fun e => ?_⟩
  · rw [hpre i (by have := h.nle; omega)]; exact h5 i hi
  · rw [hpre _ (by have := h.nle; omega)]; exact h6
  · have := (h3 g e).2; omega

theorem madeCells_one (n : Nat) : (madeCells #[Value.int .i64 0] (n * 1)).toList = List.replicate n (Value.int .i64 0) := by
  rw [Nat.mul_one]
  exact toList_madeCells_one _ _
theorem row_all {w : World} {base g n : Nat} {e : TypeId} {xs : List Value} (h : w.ownsRow base e 1 (.slice (some ⟨g, 0, none⟩) n n) n xs) : ∃ cur, w.heap[g]? = some (.cells cur e (0, 0)) ∧ cur = xs.toArray := by
  rcases h.2 with ⟨h0, _⟩ | ⟨g', cap, cur, hv, _, hg, _, _, hs, ht⟩
  · cases h0
  · cases hv
    refine ⟨cur, hg, ?_⟩
    rw [← ht, List.take_of_length_le (by simp; omega)]
/-- Another mode on top. -/
theorem Wr.settop (h : Wr base gw iv can bs ms0 m bv gs n cap w) (i : Nat) (hi : i = ms0.length) (m' : Int) : WrTo base gw iv can bs ms0 m' bv gs w (w.setCell ⟨gs, i, none⟩ (.int .i64 m')) := by
  subst hi
  obtain ⟨cur, hc, hl, h5, h6, h7⟩ := h.stk
  obtain ⟨h1, h2, h3, h4⟩ := h.lt
  have hlt : ms0.length < cur.length := by have := h.ncap; have := h.nle; omega
  refine ⟨bv, gs, n, cap, ⟨h.hgw, h.hgs, (heap_set_ne (Ne.symm h.ne1)).trans h.blk, ownsRow_of h.buf fun q hq => heap_set_ne (by rintro rfl; exact h.ne3 hq), ⟨cur.set ms0.length (.int .i64 m'), ?_, by simpa using hl, fun i hi => ?_, ?_, fun v hv => ?_⟩, h.nle, h.ncap, h.capb, h.ne1, h.ne2, h.ne3⟩,
    ⟨rfl, rfl, rfl, by simp [World.setCell], fun k _ _ hk _ => heap_set_ne hk⟩, .inl rfl, fun _ hk => .inl hk⟩
  · rw [heap_set hc]
    simp
  · rw [List.getElem?_set_ne (by omega)]; exact h5 i hi
  · rw [List.getElem?_set_self hlt]
  · rcases List.mem_or_eq_of_mem_set hv with hv | rfl
    · exact h7 v hv
    · exact ⟨m', rfl⟩
theorem stk_arr (cur : List Value) (k N : Nat) (hk : k ≤ cur.length) {z : Value} : ((List.replicate N z).toArray.toList.take 0 ++ (cur.take k ++ (List.replicate N z).toArray.toList.drop (0 + (cur.take k).length))).toArray = (cur.take k ++ List.replicate (N - k) z).toArray := by
  simp [List.length_take, Nat.min_eq_left hk, List.drop_replicate]
theorem row_other {w w2 : World} {g k : Nat} {arr : Array Value} (h : w.setRow g arr = w2) (hk : k ≠ g) : w2.heap[k]? = w.heap[k]? := by
  rw [← h]
  exact setRow_other _ _ _ _ hk
theorem take_cells {w w1 : World} {g k : Nat} {cur : List Value} {e : TypeId} (hk : w1.heap[g]? = w.heap[g]?) (hc : w.heap[g]? = some (.cells cur.toArray e (0, 0))) : ∀ j v, (cur.take k)[j]? = some v → w1.cell? ((⟨g, 0, none⟩ : Addr).add j) = some v := fun j v hv => by
  have e1 : (⟨g, 0, none⟩ : Addr).add j = ⟨g, j, none⟩ := by unfold Addr.add; split <;> simp_all
  rw [List.getElem?_take] at hv
  split at hv
  · rw [e1]
    simp [World.cell?, hk, hc]
    exact hv
  · cases hv

set_option maxRecDepth 100000 in
set_option maxHeartbeats 2000000 in
theorem Wr.advance (h : Wr base gw iv can bs ms0 m bv gs n cap w) (hd : ms0.length ≤ 800) :
    Calls Tryz.prog 38 #[.pointer (some ⟨gw, 0, none⟩)] w (fun e w' => e = .returned (.tuple #[]) ∧ ∃ m', WrTo base gw iv can bs (ms0 ++ [m]) m' bv gs w w') := by
  have HH := Lib.hid h
  obtain ⟨c0, c1, c2, c3, c4, c5, c6, cf⟩ := wcell h.blk
  have hn1 := h.nle
  have hn2 := h.ncap
  have hn3 := h.capb
  by_cases hr : ms0.length + 1 < n
  · have hd1 : decide ((n : Int) ≤ (ms0.length : Nat) + 1) = false := decide_eq_false (by omega)
    clear h
    go_enter Tryz.func38, Tryz.ntmps38
    go_wp2
    go_quiet (fail)
    go_wp2
    go_end0
    have hb := below_dn (Below.refl w.heap.size w) nq
    obtain ⟨m', hm'⟩ := (HH.out.bel hb).room hr
    exact ⟨rfl, m', WrTo.trans ⟨bv, gs, n, cap, HH.out.bel hb, Fw.bel hb, .inl rfl, fun _ hk => .inl hk, hm'⟩⟩
  · obtain rfl : n = ms0.length + 1 := by omega
    have hd1 : decide ((((ms0.length + 1 : Nat) : Int)) ≤ (ms0.length : Nat) + 1) = true := decide_eq_true (by omega)
    by_cases hc : ms0.length + 1 + 1 < cap
    · have hd2 : decide ((cap : Int) ≤ (ms0.length + 1 : Nat) + 1) = false := decide_eq_false (by omega)
      clear h hr hn1
      go_enter Tryz.func38, Tryz.ntmps38
      go_wp2
      go_quiet (fail)
      go_wp2
      go_end0
      have hb := below_dn (Below.refl w.heap.size w) nq
      have h2 := (HH.out.bel hb).reslice (n' := ms0.length + 1 + 1) (by omega) (by omega)
      obtain ⟨m', hm'⟩ := h2.room (by omega)
      refine ⟨rfl, m', WrTo.trans ⟨bv, gs, _, cap, h2, (Fw.bel hb).trans (Fw.set _ _ _) (.inl rfl) (fun _ hk => .inl hk), .inl rfl, fun _ hk => .inl hk, hm'⟩⟩
    · have hd2 : decide ((cap : Int) ≤ (ms0.length + 1 : Nat) + 1) = true := decide_eq_true (by omega)
      obtain ⟨i0, hi0, hz0, hz1, hz2⟩ := info_parts info64
      obtain ⟨cur, hcur, hcl, _, _, hint⟩ := h.stk
      have hlt := h.lt
      have HC := Lib.hid (And.intro hcur (And.intro hcl (And.intro hint hlt)))
      clear h hr hn1 hcur hcl hint hlt
      go_enter Tryz.func38, Tryz.ntmps38
      go_wp2
      go_quiet (fail)
      go_wp2_with (first | ((with_reducible refine wpList_at (some 35) ?_); refine wpList_make_full _ rfl (.tmp 34) (.tmp 34) 65 rfl w.heap.size 64 i0 _ 1 Tryz.underlying65 hi0 hz0 hz1 .i64 .i64 (2 * (cap : Int) + 1) (2 * (cap : Int) + 1) (2 * cap + 1) rfl rfl (by omega) (by omega) (by rw [hz2]; omega) (by unfold maxLen; omega) (Nat.le_refl _) ?_; intro w1 hown hgrow; obtain ⟨cur1, hg1, hs1⟩ := row_all (show w1.ownsRow w.heap.size 64 1 (.slice (some ⟨w.heap.size, 0, none⟩) (2 * cap + 1) (2 * cap + 1)) (2 * cap + 1) (List.replicate (2 * cap + 1) (Value.int .i64 0)) from by rw [← madeCells_one]; exact hown); have HG1 := Lib.hid hg1; have HS1 := Lib.hid hs1; have HGR := Lib.hid hgrow; clear c0 c1 c2 c3 c4 c5 c6 cf; obtain ⟨c0, c1, c2, c3, c4, c5, c6, cf⟩ := wcell ((hgrow.block gw (by exact HC.out.2.2.2.1) (by simp)).trans HH.out.blk); clear hg1 hs1 hown hgrow) | ((with_reducible refine wpList_at (some 41) ?_); refine wpList_copy_own rfl (.tmp 36) (.tmp 40) 65 65 rfl 64 Tryz.underlying65 size64 w.heap.size 0 (2 * cap + 1) (2 * cap + 1) ⟨gs, 0, none⟩ (ms0.length + 1) cap rfl rfl (List.replicate (2 * cap + 1) (Value.int .i64 0)).toArray 64 (HS1.out ▸ HG1.out) (cur.take (ms0.length + 1)) (by rw [List.length_take, HC.out.2.1]; simp only [Nat.min_def]; split <;> split <;> omega) (take_cells (HGR.out.block gs (by exact HC.out.2.2.2.2.1) (by simp)) HC.out.1) (by simp; omega) (fun v hv => by obtain ⟨k, rfl⟩ := HC.out.2.2.1 v (List.mem_of_mem_take hv); rfl) ?_; generalize hW2 : w1.setRow w.heap.size _ = W2; have HW2 := Lib.hid hW2; clear hW2; clear c0 c1 c2 c3 c4 c5 c6 cf; obtain ⟨c0, c1, c2, c3, c4, c5, c6, cf⟩ := wcell ((row_other HW2.out (by have := HC.out.2.2.2.1; omega)).trans ((HGR.out.block gw (by exact HC.out.2.2.2.1) (by simp)).trans HH.out.blk))))
      go_end0
      have hb := below_dn (Below.refl w.heap.size w) nq
      have h2 := (HH.out.bel hb).newstack (w2 := W2) (g := w.heap.size) (n' := 2 * cap + 1) (N := 2 * cap + 1) cur (cur.take (ms0.length + 1) ++ List.replicate (2 * cap + 1 - (ms0.length + 1)) (Value.int .i64 0)) HC.out.1 (fun k hk => (row_other HW2.out (by have : k < w.heap.size := hk; omega)).trans (HGR.out.block k hk (by simp))) (Nat.le_refl _)
        (by rw [← HW2.out, setRow_heap _ _ _ _ _ _ HG1.out, stk_arr _ _ _ (by rw [HC.out.2.1]; omega)]) (by rw [List.length_append, List.length_take, List.length_replicate, HC.out.2.1]; omega) (by omega) (by omega) (Nat.le_refl _) (fun i hi => by rw [List.getElem?_append_left (by rw [List.length_take, HC.out.2.1]; omega), List.getElem?_take, if_pos hi])
        (fun v hv => by
          rcases List.mem_append.1 hv with hv | hv
          · exact HC.out.2.2.1 v (List.mem_of_mem_take hv)
          · exact ⟨0, (List.mem_replicate.1 hv).2⟩)
      have h3 := h2.reslice (n' := ms0.length + 1 + 1) (by omega) (by omega)
      obtain ⟨m', hm'⟩ := h3.room (by omega)
      have hF : Fw gw gs bv w W2 := by
        have hg := HGR.out
        refine (Fw.bel hb).trans (gs' := gs) (bv' := bv) ⟨by rw [← HW2.out]; exact hg.os, by rw [← HW2.out]; exact hg.tape, by rw [← HW2.out]; exact hg.output, by rw [← HW2.out, setRow_size]; exact hg.size, fun k hk _ _ _ => (row_other HW2.out (by have : k < w.heap.size := hk; omega)).trans (hg.block k hk (by simp))⟩ (.inl rfl) (fun _ hk => .inl hk)
      refine ⟨rfl, m', WrTo.trans ⟨bv, _, _, _, h3, (hF.trans (Fw.set _ _ _) (.inl rfl) (fun _ hk => .inl hk)).trans (Fw.set _ _ _) (.inl rfl) (fun _ hk => .inl hk), .inr (Nat.le_refl _), fun _ hk => .inl hk, hm'⟩⟩

set_option maxRecDepth 100000 in
set_option maxHeartbeats 1000000 in
theorem Wr.push (h : Wr base gw iv can bs ms0 m bv gs n cap w) (hd : ms0.length ≤ 800) (m' : Int) :
    Calls Tryz.prog 23 #[.pointer (some ⟨gw, 0, none⟩), .int .i64 m'] w (fun e w' => e = .returned (.tuple #[]) ∧ WrTo base gw iv can bs (ms0 ++ [m]) m' bv gs w w') := by
  have HH := Lib.hid h
  go_enter Tryz.func23, Tryz.ntmps23
  go_wp2_with (fail)
  refine (HH.out.advance hd).mono ?_
  rintro e w1 ⟨rfl, m1, bv1, gs1, n1, cap1, h1, hf1, hg1, hb1⟩
  have H1 := Lib.hid h1
  have HF := Lib.hid (And.intro hf1 (And.intro hg1 hb1))
  obtain ⟨c0, c1, c2, c3, c4, c5, c6, cf⟩ := wcell h1.blk
  obtain ⟨t0, tf⟩ := h1.top
  have hn1 := h1.nle
  have hlen : (ms0 ++ [m]).length = ms0.length + 1 := by simp
  rw [hlen] at c3 t0 hn1
  clear h1 hf1 hg1 hb1 hlen
  go_wp2
  have hf0 : (0 : Int) ≤ ((ms0.length + 1 : Nat) : Int) := by omega
  have hf1 : ((ms0.length + 1 : Nat) : Int) < (n1 : Nat) := by omega
  have hf2 : (0 : Int) ≤ (ms0.length : Nat) + 1 := by omega
  have hf3 : (ms0.length : Int) + 1 < (n1 : Nat) := by omega
  have hf4 : ((ms0.length : Int) + 1).toNat = ms0.length + 1 := by omega
  go_still_tail 11, (by kernel_rfl)
  go_wp2
  go_end0
  have hb := below_dn (Below.refl w1.heap.size w1) 1
  refine ⟨rfl, WrTo.trans ⟨bv1, gs1, n1, cap1, H1.out.bel hb, HF.out.1.trans (Fw.bel hb) (.inl rfl) (fun _ hk => .inl hk), HF.out.2.1, HF.out.2.2, (H1.out.bel hb).settop (ms0.length + 1) (by simp) m'⟩⟩
end

end Go.Proofs.YtpkfdbhpmhahaaaGreatDoor

/- The writer's steps, from a first world on: its state and its frame. -/
namespace Go.Proofs.YtpkfdbhpmhahaaaGreatDoor
open Go Go.RowKit
set_option linter.unusedSimpArgs false
set_option linter.unusedVariables false

/-- What has become of the rest since the world w0. -/
def Fr (gw gs0 : Nat) (bv0 : Value) (w0 : World) (gs : Nat) (bv : Value) (w : World) : Prop :=
  Fw gw gs0 bv0 w0 w ∧ (gs = gs0 ∨ w0.heap.size ≤ gs) ∧ (∀ k, bv.ownBlock = some k → bv0.ownBlock = some k ∨ w0.heap.size ≤ k)

section
variable {base gw : Nat} {iv : Value} {can : Bool} {bs : List UInt8} {ms0 : List Int} {m : Int} {bv bv0 : Value} {gs gs0 n cap : Nat} {w w0 : World}

theorem Fr.refl (gw gs : Nat) (bv : Value) (w : World) : Fr gw gs bv w gs bv w := ⟨Fw.refl _ _ _ _, .inl rfl, fun _ h => .inl h⟩
theorem Fr.bel {w' : World} (h : Fr gw gs0 bv0 w0 gs bv w) (hb : Below w.heap.size w w') : Fr gw gs0 bv0 w0 gs bv w' := ⟨h.1.trans (Fw.bel hb) h.2.1 h.2.2, h.2.1, h.2.2⟩
theorem Fr.to {bs' : List UInt8} {ms' : List Int} {m' : Int} {w' : World} (h : Fr gw gs0 bv0 w0 gs bv w) (ht : WrTo base gw iv can bs' ms' m' bv gs w w') : ∃ bv' gs' n' cap', Wr base gw iv can bs' ms' m' bv' gs' n' cap' w' ∧ Fr gw gs0 bv0 w0 gs' bv' w' := by
  obtain ⟨bv', gs', n', cap', h1, h2, h3, h4⟩ := ht
  have := h.1.size
  refine ⟨bv', gs', n', cap', h1, h.1.trans h2 h.2.1 h.2.2, ?_, fun k hk => ?_⟩
  · have := h.2.1; omega
  · rcases h4 k hk with e | e
    · exact h.2.2 k e
    · exact .inr (by omega)
theorem Fr.wrto {bs' : List UInt8} {ms' : List Int} {m' : Int} (hw : Wr base gw iv can bs' ms' m' bv gs n cap w) (h : Fr gw gs0 bv0 w0 gs bv w) : WrTo base gw iv can bs' ms' m' bv0 gs0 w0 w := ⟨bv, gs, n, cap, hw, h.1, h.2.1, h.2.2⟩

/-- What a step leaves: the writer as said, the frame since w0. -/
def WF (base gw : Nat) (iv : Value) (can : Bool) (bs : List UInt8) (ms0 : List Int) (m : Int) (gs0 : Nat) (bv0 : Value) (w0 : World) (w : World) : Prop :=
  ∃ bv gs n cap, Wr base gw iv can bs ms0 m bv gs n cap w ∧ Fr gw gs0 bv0 w0 gs bv w
theorem WF.wrto (h : WF base gw iv can bs ms0 m gs0 bv0 w0 w) : WrTo base gw iv can bs ms0 m bv0 gs0 w0 w := by
  obtain ⟨bv, gs, n, cap, h1, h2⟩ := h
  exact Fr.wrto h1 h2

theorem Wr.fensure (h : Wr base gw iv can bs ms0 m bv gs n cap w) (hf : Fr gw gs0 bv0 w0 gs bv w) (hm : m = 4 ∨ m = 5) (dst : Int) (nm : ByteArray) (av : Value) :
    Calls Tryz.prog 22 #[.pointer (some ⟨gw, 0, none⟩), .int .i64 dst, .string nm, av] w (fun e w' => e = .returned .nilIface ∧ Wr base gw iv can bs ms0 m bv gs n cap w' ∧ Fr gw gs0 bv0 w0 gs bv w') :=
  (h.ensure hm dst nm av).mono fun e w' ⟨he, q, hq⟩ => ⟨he, by rw [hq]; exact h.bel (below_dn (Below.refl _ _) q), by rw [hq]; exact hf.bel (below_dn (Below.refl _ _) q)⟩
theorem Wr.fpop1 {ms1 : List Int} {m1 : Int} (h : Wr base gw iv can bs (ms1 ++ [m1]) m bv gs n cap w) (hf : Fr gw gs0 bv0 w0 gs bv w) (hm : m = 4 ∨ m = 5) :
    Calls Tryz.prog 46 #[.pointer (some ⟨gw, 0, none⟩)] w (fun e w' => e = .returned (.tuple #[]) ∧ WF base gw iv can bs ms1 m1 gs0 bv0 w0 w') :=
  (h.pop1 hm).mono fun e w' ⟨he, ht⟩ => ⟨he, hf.to ht⟩
theorem Wr.fpop2 {ms1 : List Int} {m1 m2 : Int} (h : Wr base gw iv can bs (ms1 ++ [m1, m2]) m bv gs n cap w) (hf : Fr gw gs0 bv0 w0 gs bv w) (hm : m = 2 ∨ m = 3 ∨ m = 6) :
    Calls Tryz.prog 46 #[.pointer (some ⟨gw, 0, none⟩)] w (fun e w' => e = .returned (.tuple #[]) ∧ WF base gw iv can bs ms1 m1 gs0 bv0 w0 w') :=
  (h.pop2 hm).mono fun e w' ⟨he, ht⟩ => ⟨he, hf.to ht⟩
theorem Wr.fpush (h : Wr base gw iv can bs ms0 m bv gs n cap w) (hf : Fr gw gs0 bv0 w0 gs bv w) (hd : ms0.length ≤ 800) (m' : Int) :
    Calls Tryz.prog 23 #[.pointer (some ⟨gw, 0, none⟩), .int .i64 m'] w (fun e w' => e = .returned (.tuple #[]) ∧ WF base gw iv can bs (ms0 ++ [m]) m' gs0 bv0 w0 w') :=
  (h.push hd m').mono fun e w' ⟨he, ht⟩ => ⟨he, hf.to ht⟩

theorem info5u : (Tryz.prog.info? 5).map (fun i => (i.zero, i.size, i.bytes)) = some (some (.int .u8 0), 1, 1) := by kernel_rfl
theorem byteCells_oneCell' (l : List UInt8) : ∀ v ∈ Lib.byteCells l, v.oneCell' = true := byteCells_oneCell l

/-- More bytes are appended to what the writer has written. -/
theorem wp_wr_append {o : Oper} {a : Act} {wa : World} {K : Act → World → Prop} {Q : Exit → Act → World → Prop} (hw : Wr base gw iv can bs ms0 m bv gs n cap w) (hf : Fr gw gs0 bv0 w0 gs bv w) (hb : Below w.heap.size w wa) (s x : Operand)
    (ho : o.op = .call { callee := .builtin .append, args := #[s, x], argTypes := #[23, 23] }) (hs : a.eval s = bv) (ad : Addr) (len c : Nat) (l : List UInt8) (hx : a.eval x = .slice (some ad) len c) (hlen : l.length = len)
    (hnews : ∀ j u, (Lib.byteCells l)[j]? = some u → wa.cell? (ad.add j) = some u) (hpos : 0 < l.length) (hbl : bs.length + l.length ≤ 1000000000)
    (hK : ∀ (g ln cp : Nat) (w1 : World), w1.heap[gw]? = w.heap[gw]? → Hid (Wr base gw iv can (bs ++ l) ms0 m (.slice (some ⟨g, 0, none⟩) ln cp) gs n cap (w1.setCell ⟨gw, 1, none⟩ (.slice (some ⟨g, 0, none⟩) ln cp))) → Hid (Fr gw gs0 bv0 w0 gs (.slice (some ⟨g, 0, none⟩) ln cp) (w1.setCell ⟨gw, 1, none⟩ (.slice (some ⟨g, 0, none⟩) ln cp))) → K (a.put o.dst (.slice (some ⟨g, 0, none⟩) ln cp)) w1) : o.wp Tryz.prog a wa K Q := by
  subst hlen
  obtain ⟨i0, hi0, hz0, hz1, hz2⟩ := info_parts info5u
  obtain ⟨h1, h2, h3, h4⟩ := hw.lt
  have hs1 := hb.size
  refine wp_append_lies wa s x 23 ho base 5 i0 _ 1 1 Tryz.underlying23 hi0 hz0 hz1 hz2 rfl (by omega) bv bs.length (Lib.byteCells bs) hs (ownsRow_of hw.buf fun k hk => hb.block k (h3 k hk).2) ad l.length c (Lib.byteCells l) hx (by rw [byteCells_length]; omega) hnews (byteCells_oneCell l) hpos (by unfold maxLen; omega) (by omega) (by omega) wa.heap.size rfl ?_
  intro g cap1 w1 hown hgrow hat hlt
  have ht := hw.appended hb hown hgrow hat
  refine hK g _ cap1 w1 ((hgrow.block gw (by omega) (fun e => hw.ne2 e.symm)).trans (hb.block gw h1)) ?_ ?_
  · obtain ⟨h1, h2, h3, h4⟩ := hw.lt
    have hs := hb.size
    have hs2 := hgrow.size
    have hgne : g ≠ gw := by
      rcases hat with e | rfl
      · rintro rfl; exact hw.ne2 e
      · omega
    have hgns : g ≠ gs := by
      rcases hat with e | rfl
      · rintro rfl; exact hw.ne3 e
      · omega
    have hblk : w1.heap[gw]? = some (.cells (wcells iv bv (.slice (some ⟨gs, 0, none⟩) n cap) (ms0.length : Nat) can) 67 (0, 0)) := (hgrow.block gw (by omega) (fun e => hw.ne2 e.symm)).trans ((hb.block gw h1).trans hw.blk)
    obtain ⟨cur, hc, hr⟩ := hw.stk
    refine Lib.hid ⟨hw.hgw, hw.hgs, by rw [heap_set hblk]; rfl, ?_, ⟨cur, (heap_set_ne hw.ne1).trans ((hgrow.block gs (by omega) (fun e => hw.ne3 e.symm)).trans ((hb.block gs h2).trans hc)), hr⟩, hw.nle, hw.ncap, hw.capb, hw.ne1, by simpa [Value.ownBlock] using hgne, by simpa [Value.ownBlock] using hgns⟩
    have e : Lib.byteCells (bs ++ l) = Lib.byteCells bs ++ Lib.byteCells l := by simp [Lib.byteCells]
    rw [e, List.length_append]
    exact ownsRow_of hown fun q hq => heap_set_ne (by simp only [Value.ownBlock, Option.some.injEq] at hq; omega)
  · obtain ⟨bv', gs', n', cap', hw', hf', hg', hb'⟩ := ht
    refine Lib.hid ⟨hf.1.trans hf' hf.2.1 hf.2.2, hf.2.1, fun k hk => ?_⟩
    simp only [Value.ownBlock, Option.some.injEq] at hk
    subst hk
    rcases hat with e | e
    · exact hf.2.2 _ e
    · have := hf.1.size; exact .inr (by omega)

theorem wpList_wr_append {ops : Array Oper} {rest : List Oper} {o : Oper} {a : Act} {wa : World} {Q : Exit → Act → World → Prop} (hw : Wr base gw iv can bs ms0 m bv gs n cap w) (hf : Fr gw gs0 bv0 w0 gs bv w) (hb : Below w.heap.size w wa) (hgd : o.guard = none) (s x : Operand)
    (ho : o.op = .call { callee := .builtin .append, args := #[s, x], argTypes := #[23, 23] }) (hs : a.eval s = bv) (ad : Addr) (len c : Nat) (l : List UInt8) (hx : a.eval x = .slice (some ad) len c) (hlen : l.length = len)
    (hnews : ∀ j u, (Lib.byteCells l)[j]? = some u → wa.cell? (ad.add j) = some u) (hpos : 0 < l.length) (hbl : bs.length + l.length ≤ 1000000000)
    (hK : ∀ (g ln cp : Nat) (w1 : World), w1.heap[gw]? = w.heap[gw]? → Hid (Wr base gw iv can (bs ++ l) ms0 m (.slice (some ⟨g, 0, none⟩) ln cp) gs n cap (w1.setCell ⟨gw, 1, none⟩ (.slice (some ⟨g, 0, none⟩) ln cp))) → Hid (Fr gw gs0 bv0 w0 gs (.slice (some ⟨g, 0, none⟩) ln cp) (w1.setCell ⟨gw, 1, none⟩ (.slice (some ⟨g, 0, none⟩) ln cp))) → wpList Tryz.prog ops Q rest (a.put o.dst (.slice (some ⟨g, 0, none⟩) ln cp)) w1) : wpList Tryz.prog ops Q (o :: rest) a wa :=
  wpList_plain hgd fun _ hK2 => wp_wr_append hw hf hb s x ho hs ad len c l hx hlen hnews hpos hbl fun g ln cp w1 h1 h2 h3 => hK2 _ _ (hK g ln cp w1 h1 h2 h3)

/-- One byte laid into a block of its own. -/
theorem news_one (w : World) (c : UInt8) : ∀ j u, (Lib.byteCells [c])[j]? = some u → (w.alloc (.cells #[.int .u8 (c.toNat : Int)] 5)).cell? ((⟨w.heap.size, 0, none⟩ : Addr).add j) = some u :=
  World.news_of_block (cs := #[.int .u8 (c.toNat : Int)]) (t := 5) (fr := (0, 0)) (heap_alloc_new w _)
/-- A text's bytes in a block of their own. -/
theorem news_str (w : World) (s : ByteArray) : ∀ j u, (Lib.byteCells s.data.toList)[j]? = some u → (Lib.bytesWorld w 5 s).cell? ((⟨w.heap.size, 0, none⟩ : Addr).add j) = some u := fun j u hu => by
  have e1 : (⟨w.heap.size, 0, none⟩ : Addr).add j = ⟨w.heap.size, j, none⟩ := by unfold Addr.add; split <;> simp_all
  rw [byteCells_get] at hu
  obtain ⟨b, hb, rfl⟩ := Option.map_eq_some_iff.1 hu
  obtain ⟨hj, rfl⟩ := List.getElem?_eq_some_iff.1 hb
  rw [e1, Lib.bytesWorld_cell w 5 s j (by simpa using hj)]
  rw [List.getD_eq_getElem?_getD, List.getElem?_eq_getElem hj]
  rfl
theorem bytes_below (w : World) (s : ByteArray) : Below w.heap.size w (Lib.bytesWorld w 5 s) :=
  ⟨rfl, rfl, rfl, by rw [Lib.bytesWorld_size]; omega, fun k hk => Lib.bytesWorld_at_old w 5 s k hk⟩
theorem run_conv_bytes (W : World) (s : ByteArray) : (convert 9 23 (.string s)).run Tryz.prog W = .ok (.slice (some ⟨W.heap.size, 0, none⟩) s.size (grownCap W s.size 0 5)) (Lib.bytesWorld W 5 s) :=
  Lib.run_convert_string_bytes W 9 23 5 s Tryz.underlying9 Tryz.underlying23 Tryz.underlying5
theorem data_length (s : ByteArray) : s.data.toList.length = s.size := rfl
end

end Go.Proofs.YtpkfdbhpmhahaaaGreatDoor

/- writeExtendedSingleValue. -/
namespace Go.Proofs.YtpkfdbhpmhahaaaGreatDoor
open Go Go.RowKit
set_option linter.unusedSimpArgs false
set_option linter.unusedVariables false

/-- A value under a key with a dollar sign. -/
def esv (key val : ByteArray) (q : Bool) : ByteArray :=
  if q then (((⟨#[123, 34, 36]⟩ ++ key) ++ ⟨#[34, 58, 34]⟩) ++ val) ++ ⟨#[34, 125]⟩ else (((⟨#[123, 34, 36]⟩ ++ key) ++ ⟨#[34, 58]⟩) ++ val) ++ ⟨#[125]⟩
theorem esv_true (key val : ByteArray) : (esv key val true).size = 3 + key.size + 3 + val.size + 2 := by
  simp only [esv, if_true, ByteArray.size_append]
  rfl
theorem esv_false (key val : ByteArray) : (esv key val false).size = 3 + key.size + 2 + val.size + 1 := by
  simp only [esv, if_false, Bool.false_eq_true, ByteArray.size_append]
  rfl
theorem esv_size (key val : ByteArray) (q : Bool) : 0 < (esv key val q).size ∧ (esv key val q).size ≤ key.size + val.size + 8 := by
  have e1 : (⟨#[123, 34, 36]⟩ : ByteArray).size = 3 := rfl
  have e2 : (⟨#[34, 58, 34]⟩ : ByteArray).size = 3 := rfl
  have e3 : (⟨#[34, 125]⟩ : ByteArray).size = 2 := rfl
  have e4 : (⟨#[34, 58]⟩ : ByteArray).size = 2 := rfl
  have e5 : (⟨#[125]⟩ : ByteArray).size = 1 := rfl
  cases q <;> simp only [esv, if_true, if_false, Bool.false_eq_true, ByteArray.size_append, e1, e2, e3, e4, e5] <;> omega

section
variable {base gw : Nat} {iv : Value} {can : Bool} {bs : List UInt8} {ms0 : List Int} {m : Int} {bv bv0 : Value} {gs gs0 n cap : Nat} {w w0 : World}

set_option maxRecDepth 100000 in
set_option maxHeartbeats 1000000 in
theorem Wr.fesv (h : Wr base gw iv can bs ms0 m bv gs n cap w) (hf : Fr gw gs0 bv0 w0 gs bv w) (key val : ByteArray) (q : Bool) (hk : key.size ≤ 100) (hv : val.size ≤ 1000000) (hbl : bs.length ≤ 900000000) :
    Calls Tryz.prog 78 #[.pointer (some ⟨gw, 0, none⟩), .string key, .string val, .bool q] w (fun e w' => e = .returned (.tuple #[]) ∧ WF base gw iv can (bs ++ (esv key val q).data.toList) ms0 m gs0 bv0 w0 w') := by
  have hes := esv_size key val q
  have e1 : (⟨#[123, 34, 36]⟩ : ByteArray).size = 3 := rfl
  have e2 : (⟨#[34, 58, 34]⟩ : ByteArray).size = 3 := rfl
  have e3 : (⟨#[34, 125]⟩ : ByteArray).size = 2 := rfl
  have e4 : (⟨#[34, 58]⟩ : ByteArray).size = 2 := rfl
  have e5 : (⟨#[125]⟩ : ByteArray).size = 1 := rfl
  obtain ⟨c0, c1, c2, c3, c4, c5, c6, cf⟩ := wcell h.blk
  have kc := fun (W : World) (s : ByteArray) => run_conv_bytes W s
  have HW := Lib.hid h
  have HF := Lib.hid hf
  have HE := Lib.hid hes
  clear h hf hes
  cases q with
  | true =>
    go_enter Tryz.func78, Tryz.ntmps78
    go_wp2_with (first | (at_builtin; refine wpList_wr_append HW.out HF.out (bytes_below _ _) rfl (.tmp 26) (.tmp 28) rfl rfl ⟨w.heap.size, 0, none⟩ _ _ (esv key val true).data.toList rfl (esv_true key val) (news_str _ _) (by rw [data_length]; exact HE.out.1) (by rw [data_length]; have := HE.out.2; omega) ?_; intro g1 ln1 cp1 w1 hg hw1 hf1; have HW1 := hw1; have HF1 := hf1; clear hw1 hf1 c0 c1 c2 c3 c4 c5 c6 cf; obtain ⟨c0, c1, c2, c3, c4, c5, c6, cf⟩ := wcell (hg.trans HW.out.blk); clear hg))
    go_end0
    exact ⟨rfl, _, _, _, _, HW1.out, HF1.out⟩
  | false =>
    go_enter Tryz.func78, Tryz.ntmps78
    go_wp2_with (first | (at_builtin; refine wpList_wr_append HW.out HF.out (bytes_below _ _) rfl (.tmp 26) (.tmp 28) rfl rfl ⟨w.heap.size, 0, none⟩ _ _ (esv key val false).data.toList rfl (esv_false key val) (news_str _ _) (by rw [data_length]; exact HE.out.1) (by rw [data_length]; have := HE.out.2; omega) ?_; intro g1 ln1 cp1 w1 hg hw1 hf1; have HW1 := hw1; have HF1 := hf1; clear hw1 hf1 c0 c1 c2 c3 c4 c5 c6 cf; obtain ⟨c0, c1, c2, c3, c4, c5, c6, cf⟩ := wcell (hg.trans HW.out.blk); clear hg))
    go_end0
    exact ⟨rfl, _, _, _, _, HW1.out, HF1.out⟩
end

end Go.Proofs.YtpkfdbhpmhahaaaGreatDoor

/- The package-level tables that the writer reads. -/
namespace Go.Proofs.YtpkfdbhpmhahaaaGreatDoor
open Go Go.RowKit
set_option linter.unusedSimpArgs false
set_option linter.unusedVariables false

def safeB (b : Nat) : Bool := decide (32 ≤ b) && b != 34 && b != 92
def htmlB (b : Nat) : Bool := safeB b && b != 38 && b != 60 && b != 62
/-- The table of powers of ten. -/
noncomputable def p10h (i : Nat) : Int := (Go.Pinned.pow10Rows.getD i (0, 0)).1
noncomputable def p10l (i : Nat) : Int := (Go.Pinned.pow10Rows.getD i (0, 0)).2

structure Tabs (w : World) : Prop where
  html : ∀ b : Nat, b < 128 → w.cell? ⟨2, b, none⟩ = some (.bool (htmlB b))
  safe : ∀ b : Nat, b < 128 → w.cell? ⟨3, b, none⟩ = some (.bool (safeB b))
  utf : Lib.Utf8Tabs 5 6 w
  pow : Lib.TabIs Tryz.prog w "internal/strconv.uint64pow10" .u64 Lib.pow10Tab
  p10 : ∀ i, i < 696 → w.cell? ⟨11, i * 2, none⟩ = some (.int .u64 (p10h i)) ∧ w.cell? ⟨11, i * 2 + 1, none⟩ = some (.int .u64 (p10l i))
  nat : ∀ i, i < 696 → (0 ≤ p10h i ∧ p10h i < 18446744073709551616) ∧ (0 ≤ p10l i ∧ p10l i < 18446744073709551616)
  big : 13 ≤ w.heap.size

theorem gPow10 : Tryz.prog.globalNamed "internal/strconv.uint64pow10" = some 7 := by kernel_rfl

theorem Tabs.kept {w w' : World} (h : Tabs w) (hk : ∀ k, k < 13 → w'.heap[k]? = w.heap[k]?) (hs : 13 ≤ w'.heap.size) : Tabs w' := by
  have k : ∀ (a : Addr) v, a.block < 13 → w.cell? a = some v → w'.cell? a = some v := fun a v ha hc => (World.cell?_of_block (hk a.block ha)).trans hc
  refine ⟨fun b hb => k _ _ (show (2:Nat) < 13 by decide) (h.html b hb), fun b hb => k _ _ (show (3:Nat) < 13 by decide) (h.safe b hb), ⟨fun c hc => k _ _ (show (5:Nat) < 13 by decide) (h.utf.1 c hc), fun i hi => ⟨k _ _ (show (6:Nat) < 13 by decide) (h.utf.2 i hi).1, k _ _ (show (6:Nat) < 13 by decide) (h.utf.2 i hi).2⟩⟩, ?_, fun i hi => ⟨k _ _ (show (11:Nat) < 13 by decide) (h.p10 i hi).1, k _ _ (show (11:Nat) < 13 by decide) (h.p10 i hi).2⟩, h.nat, hs⟩
  have hp := h.pow
  unfold Lib.TabIs World.var? at hp ⊢
  rw [gPow10] at hp ⊢
  simp only [Option.bind_some] at hp ⊢
  rw [hk 7 (by decide)]
  exact hp
theorem Tabs.bel {w w' : World} {B : Nat} (h : Tabs w) (hb : Below B w w') (hB : 13 ≤ B) : Tabs w' := h.kept (fun k hk => hb.block k (by omega)) (Nat.le_trans h.big hb.size)

theorem Tabs.fr {base gw gs gs0 : Nat} {bv bv0 : Value} {w0 w : World} (h : Tabs w0) (hf : Fr gw gs0 bv0 w0 gs bv w) (h1 : 13 ≤ gw) (h2 : 13 ≤ gs0) (h3 : ∀ k, bv0.ownBlock = some k → 13 ≤ k) : Tabs w :=
  h.kept (fun k hk => hf.1.block k (by have := h.big; omega) (by omega) (by omega) (fun e => by have := h3 k e; omega)) (Nat.le_trans h.big hf.1.size)
theorem Tabs.wr {base gw gs gs0 n cap : Nat} {iv : Value} {can : Bool} {bs : List UInt8} {ms0 : List Int} {m : Int} {bv bv0 : Value} {w0 w : World} (h : Tabs w0) (hw : Wr base gw iv can bs ms0 m bv0 gs0 n cap w0) (hf : Fr gw gs0 bv0 w0 gs bv w) (hb : 13 ≤ base) : Tabs w :=
  h.fr (base := base) hf (Nat.le_trans hb hw.hgw) (Nat.le_trans hb hw.hgs) (fun k hk => Nat.le_trans hb (hw.lt.2.2.1 k hk).1)

/-- FormatInt, FormatBool, as texts. -/
theorem below_grow {w : World} (k : Nat) (os : Array Obj) : Below w.heap.size w (Sort.grow (w.drewN k) os) :=
  ⟨rfl, rfl, rfl, by simp [Sort.grow], fun j hj => by
    show (w.heap ++ os)[j]? = _
    rw [Array.getElem?_append_left hj]⟩
theorem fmtInt (n : Int) (hn : -9223372036854775808 ≤ n ∧ n ≤ 9223372036854775807) (w : World) (hT : Tabs w) : Calls Tryz.prog 83 #[.int .i64 n, .int .i64 10] w (Txt ⟨(Lib.itoa n).toArray⟩ w) :=
  (Tryz.strconv_FormatInt_10 n hn.1 hn.2 w hT.pow).mono fun e w' ⟨he, k, os, hw⟩ => ⟨he, by rw [hw]; exact below_grow k os⟩
theorem fmtBool (b : Bool) (w : World) : Calls Tryz.prog 82 #[.bool b] w (Txt ⟨(Lib.formatBool b).toArray⟩ w) :=
  (Tryz.strconv_FormatBool b w).mono fun e w' ⟨he, hw⟩ => ⟨he, by rw [hw]; exact Below.refl _ _⟩

end Go.Proofs.YtpkfdbhpmhahaaaGreatDoor

/- A buffer of the call's own, as it stands. -/
namespace Go.Proofs.YtpkfdbhpmhahaaaGreatDoor
open Go Go.RowKit
set_option linter.unusedSimpArgs false
set_option linter.unusedVariables false

theorem row_some' {w : World} {base e k n : Nat} {v : Value} {xs : List Value} (h : w.ownsRow base e k v n xs) (hn : 0 < n) : ∃ g cap cur, v = .slice (some ⟨g, 0, none⟩) n cap ∧ base ≤ g ∧ w.heap[g]? = some (.cells cur e (0, 0)) ∧ cur.toList.take (n * k) = xs := by
  rcases h.2 with ⟨rfl, h0⟩ | ⟨g, cap, cur, rfl, hb, hh, _, _, _, ht⟩
  · omega
  · exact ⟨g, cap, cur, rfl, hb, hh, ht⟩
theorem row_get' (w : World) (g : Nat) (cur : Array Value) (k : Nat) (l : List UInt8) (h : w.heap[g]? = some (.cells cur 5 (0, 0))) (ht : cur.toList.take (k * 1) = Lib.byteCells l) (hl : l.length = k) : ∀ j u, (Lib.byteCells l)[j]? = some u → w.cell? ((⟨g, 0, none⟩ : Addr).add j) = some u := fun j u hu => by
  have e : (⟨g, 0, none⟩ : Addr).add j = ⟨g, j, none⟩ := by unfold Addr.add; split <;> simp_all
  rw [e, byteCells_get] at *
  obtain ⟨b, hb, rfl⟩ := Option.map_eq_some_iff.1 hu
  obtain ⟨hj, rfl⟩ := List.getElem?_eq_some_iff.1 hb
  exact row_cell h (by rw [Nat.mul_one, ← hl] at ht; exact ht) j hj

/-- The buffer in block gb holds l; below B nothing has turned since w0. -/
structure BSt (B gb : Nat) (l : List UInt8) (w0 w : World) : Prop where
  buf : Lib.IsBuffer 39 5 B gb (Lib.byteCells l) w
  below : Below B w0 w
  size : B ≤ w.heap.size

theorem BSt.fresh {w0 w : World} (hb : Below w0.heap.size w0 w) : BSt w.heap.size w.heap.size [] w (w.alloc (.cells #[.slice none 0 0, .int .i64 0, .int .i8 0] 39)) :=
  ⟨Lib.fresh_isBuffer 39 5 w, (Below.refl _ _).alloc (Nat.le_refl _) _, by simp⟩
theorem BSt.go {B gb : Nat} {l : List UInt8} {w0 w w' : World} (h : BSt B gb l w0 w) (hb : Below w.heap.size w w') : BSt B gb l w0 w' :=
  ⟨Lib.IsBuffer.old h.buf hb, h.below.trans (hb.mono h.size), Nat.le_trans h.size hb.size⟩

theorem BSt.byte {B gb : Nat} {l : List UInt8} {w0 w : World} (h : BSt B gb l w0 w) (hl : l.length ≤ 900000000) (c : UInt8) :
    Calls Tryz.prog 49 #[.pointer (some ⟨gb, 0, none⟩), .int .u8 (c.toNat : Int)] w fun e w' => e = .returned .nilIface ∧ BSt B gb (l ++ [c]) w0 w' := by
  refine (Tryz.Buffer_WriteByte_k B gb _ (c.toNat : Int) w h.buf h.size (byteCells_oneCell _) (by rw [byteCells_length]; omega)).mono ?_
  rintro e w' ⟨rfl, h1, h2, _⟩
  refine ⟨rfl, ?_, h.below.trans h2, Nat.le_trans h.size h2.size⟩
  have e : Lib.byteCells (l ++ [c]) = Lib.byteCells l ++ [.int .u8 (c.toNat : Int)] := by simp [Lib.byteCells]
  rw [e]
  exact h1
theorem BSt.byteI {B gb : Nat} {l : List UInt8} {w0 w : World} (h : BSt B gb l w0 w) (hl : l.length ≤ 900000000) (c : Int) (hc : 0 ≤ c ∧ c < 256) :
    Calls Tryz.prog 49 #[.pointer (some ⟨gb, 0, none⟩), .int .u8 c] w fun e w' => e = .returned .nilIface ∧ BSt B gb (l ++ [UInt8.ofNat c.toNat]) w0 w' := by
  have e : ((UInt8.ofNat c.toNat).toNat : Int) = c := by rw [UInt8.toNat_ofNat']; omega
  have := h.byte hl (UInt8.ofNat c.toNat)
  rw [e] at this
  exact this
theorem BSt.str {B gb : Nat} {l : List UInt8} {w0 w : World} (h : BSt B gb l w0 w) (hl : l.length ≤ 900000000) (s : ByteArray) (hs : s.size ≤ 100000000) :
    Calls Tryz.prog 50 #[.pointer (some ⟨gb, 0, none⟩), .string s] w fun e w' => e = .returned (.tuple #[.int .i64 s.size, .nilIface]) ∧ BSt B gb (l ++ s.data.toList) w0 w' := by
  refine (Tryz.Buffer_WriteString_k B gb _ s w h.buf h.size (byteCells_oneCell _) (by rw [byteCells_length]; omega)).mono ?_
  rintro e w' ⟨rfl, h1, h2, _⟩
  refine ⟨rfl, ?_, h.below.trans h2, Nat.le_trans h.size h2.size⟩
  have e : Lib.byteCells (l ++ s.data.toList) = Lib.byteCells l ++ Lib.byteCells s.data.toList := by simp [Lib.byteCells]
  rw [e]
  exact h1
theorem BSt.dn {B gb : Nat} {l : List UInt8} {w0 w : World} (h : BSt B gb l w0 w) (q : Nat) : BSt B gb l w0 (w.drewN q) := h.go (below_dn (Below.refl _ _) q)
theorem BSt.dr {B gb : Nat} {l : List UInt8} {w0 w : World} (h : BSt B gb l w0 w) : BSt B gb l w0 w.drew := h.dn 1
theorem BSt.string {B gb : Nat} {l : List UInt8} {w0 w : World} (h : BSt B gb l w0 w) :
    Calls Tryz.prog 13 #[.pointer (some ⟨gb, 0, none⟩)] w fun e w' => e = .returned (.string ⟨l.toArray⟩) ∧ BSt B gb l w0 w' :=
  (Tryz.Buffer_String B gb l w h.buf).mono fun e w' ⟨he, q, hq⟩ => ⟨he, by rw [hq]; exact h.dn q⟩
theorem BSt.bytes {B gb : Nat} {l : List UInt8} {w0 w : World} (h : BSt B gb l w0 w) (hp : 0 < l.length) :
    Calls Tryz.prog 52 #[.pointer (some ⟨gb, 0, none⟩)] w fun e w' => ∃ gv cv, e = .returned (.slice (some ⟨gv, 0, none⟩) l.length cv) ∧ (∀ j u, (Lib.byteCells l)[j]? = some u → w'.cell? ((⟨gv, 0, none⟩ : Addr).add j) = some u) ∧ BSt B gb l w0 w' := by
  refine (Tryz.Buffer_Bytes B gb _ w h.buf).mono ?_
  rintro e w' ⟨v, rfl, hown, q, rfl⟩
  rw [byteCells_length] at hown
  obtain ⟨gv, cap, cur, rfl, _, hg, ht⟩ := row_some' hown hp
  exact ⟨gv, cap, rfl, row_get' _ gv cur l.length l hg ht rfl, h.dn q⟩

/-- writeStringWithEscapes writes l for s. -/
def EscC (s : ByteArray) (l : List UInt8) : Prop :=
  ∀ (B gb : Nat) (l0 : List UInt8) (w0 w : World), Tabs w → BSt B gb l0 w0 w → l0.length ≤ 1000000 → 13 ≤ B →
    Calls Tryz.prog 39 #[.string s, .pointer (some ⟨gb, 0, none⟩), .bool false] w (fun e w' => e = .returned (.tuple #[]) ∧ BSt B gb (l0 ++ l) w0 w')

end Go.Proofs.YtpkfdbhpmhahaaaGreatDoor
