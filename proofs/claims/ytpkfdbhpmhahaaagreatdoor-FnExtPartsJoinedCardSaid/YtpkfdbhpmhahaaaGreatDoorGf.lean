/- The law's documents: extDocument's answer as a tree; the guard of one value. -/
import Derived.Test.YtpkfdbhpmhahaaaGreatDoorGe
import Derived.Test.YtpkfdbhpmhahaaaGreatDoorFit
import Derived.Test.YtpkfdbhpmhahaaaGreatDoorGa
import Derived.Laws.Cover2
import Derived.Deep.AppendLies
import Derived.Deep.Upon
namespace Go.Proofs.YtpkfdbhpmhahaaaGreatDoor
open Go Go.RowKit
set_option linter.unusedSimpArgs false
set_option linter.unusedVariables false

/-- The parts of the document that extDocument makes of a value. -/
def docK : T → List (ByteArray × T)
  | .mk K t m n b h bs ks => if K = 3 then ks else [(⟨#[97]⟩, .mk K t m n b h bs ks)]
/-- A document's parts stand in a row. -/
structure KRow (w : World) (L : Nat) (ks : List (ByteArray × T)) (ka : Option Addr) (kn kc kb ko : Nat) (C : Nat → Array Value) : Prop where
  fn : kn = ks.length
  fl : kn ≤ 9223372036854775807
  fc : kn ≤ kc
  fa : ks ≠ [] → ka = some ⟨kb, ko, none⟩ ∧ kb < L
  row : ∀ i (hi : i < ks.length), w.rangeAt kb (ko + i * 9) (.string (ks[i].1) :: (C i).toList)
  kt : ∀ i (hi : i < ks.length), (ks[i].1).size ≤ 9223372036854775807
  sub : ∀ i (hi : i < ks.length), VAt w L (ks[i].2) (.agg (C i))
theorem KRow.kept {w w' : World} {L L' : Nat} {ks : List (ByteArray × T)} {ka : Option Addr} {kn kc kb ko : Nat} {C : Nat → Array Value} (h : KRow w L ks ka kn kc kb ko C) (hL : L ≤ L') (hk : ∀ k, k < L → w'.heap[k]? = w.heap[k]?) : KRow w' L' ks ka kn kc kb ko C :=
  ⟨h.fn, h.fl, h.fc, fun e => ⟨(h.fa e).1, Nat.lt_of_lt_of_le (h.fa e).2 hL⟩, fun i hi => rangeAt_kept (h.row i hi) (hk _ (h.fa (by rintro rfl; simp at hi)).2), h.kt, fun i hi => (h.sub i hi).kept hL hk⟩

/-- A value whose parts are those of x as a document, and the row that they stand in. -/
structure DocV (x : T) (K : Int) (t m : ByteArray) (n b h : Int) (bs : List UInt8) (bv : Value) (ka : Option Addr) (kn kc kb ko : Nat) (C : Nat → Array Value) (W : World) : Prop where
  v : VAt W W.heap.size (.mk K t m n b h bs (docK x)) (.agg (vcells K t m n b h bv (.slice ka kn kc)))
  r : KRow W W.heap.size (docK x) ka kn kc kb ko C

/-- What extDocument answers, as a tree: a value whose parts are docK; it stands as long as what lay below L and what the call made stand. -/
def DocT (x : T) (L : Nat) (w : World) (e : Ending) (w' : World) : Prop :=
  Below w.heap.size w w' ∧ ∃ (K : Int) (t m : ByteArray) (n b h : Int) (bs : List UInt8) (bv : Value) (ka : Option Addr) (kn kc kb ko : Nat) (C : Nat → Array Value),
    e = .returned (.agg (vcells K t m n b h bv (.slice ka kn kc))) ∧ ∀ W : World, w'.heap.size ≤ W.heap.size → (∀ k, k < L ∨ (w.heap.size ≤ k ∧ k < w'.heap.size) → W.heap[k]? = w'.heap[k]?) → DocV x K t m n b h bs bv ka kn kc kb ko C W

theorem extDocT (x : T) (L : Nat) (v : Value) (w : World) (hv : VAt w L x v) (hL : L ≤ w.heap.size) : Calls Tryz.prog 5 #[v] w (DocT x L w) := by
  have HV := hv
  cases hv with
  | mk K t m n b h bs ks ba ka bn bc kn kc g o kb ko C hK hn hb hh ht hm hbn hbl hbc hbs hba hkn hkl hkc hka hks hkt hsub =>
  refine (extDocument K t m n b h ba ka bn bc kn kc w).mono ?_
  rintro e w' ⟨hbel, h3⟩
  have hL' : L ≤ w'.heap.size := Nat.le_trans hL hbel.size
  have hkr : KRow w L ks ka kn kc kb ko C := ⟨hkn, hkl, hkc, hka, hks, hkt, hsub⟩
  refine ⟨hbel, ?_⟩
  rcases h3 with ⟨h3, rfl⟩ | ⟨h3, g2, hg2, hrow, rfl⟩
  · have e : docK (.mk K t m n b h bs ks) = ks := by rw [docK, if_pos h3]
    refine ⟨K, t, m, n, b, h, bs, _, ka, kn, kc, kb, ko, C, rfl, fun W hs hk2 => ?_⟩
    have hk : ∀ k, k < L → W.heap[k]? = w.heap[k]? := fun k hk => (hk2 k (.inl hk)).trans (hbel.block k (by omega))
    refine ⟨?_, ?_⟩ <;> rw [e]
    · exact HV.kept (by omega) hk
    · exact hkr.kept (by omega) hk
  · have e : docK (.mk K t m n b h bs ks) = [(⟨#[97]⟩, .mk K t m n b h bs ks)] := by rw [docK, if_neg h3]
    refine ⟨3, ⟨#[]⟩, ⟨#[]⟩, 0, 0, 0, [], .slice none 0 0, some ⟨g2, 0, none⟩, 1, 1, g2, 0, (fun _ => vcells K t m n b h (.slice ba bn bc) (.slice ka kn kc)), rfl, fun W hs hk2 => ?_⟩
    have hlt := lt_of_heap hrow
    have hk : ∀ k, k < L → W.heap[k]? = w.heap[k]? := fun k hk => (hk2 k (.inl hk)).trans (hbel.block k (by omega))
    have hrow2 := (hk2 g2 (.inr ⟨hg2, hlt⟩)).trans hrow
    have hr : KRow W W.heap.size [(⟨#[97]⟩, .mk K t m n b h bs ks)] (some ⟨g2, 0, none⟩) 1 1 g2 0 (fun _ => vcells K t m n b h (.slice ba bn bc) (.slice ka kn kc)) := by
      refine ⟨rfl, by decide, by decide, fun _ => ⟨rfl, by omega⟩, fun i hi => ?_, fun i hi => ?_, fun i hi => ?_⟩
      · have h0 : i = 0 := by simp at hi; omega
        subst h0
        have := row_range hrow2
        simpa [vcells] using this
      · have h0 : i = 0 := by simp at hi; omega
        subst h0
        show (⟨#[97]⟩ : ByteArray).size ≤ _
        decide
      · have h0 : i = 0 := by simp at hi; omega
        subst h0
        exact HV.kept (by omega) hk
    refine ⟨?_, ?_⟩ <;> rw [e]
    · exact .mk 3 ⟨#[]⟩ ⟨#[]⟩ 0 0 0 [] _ none _ 0 0 1 1 0 0 g2 0 _ ⟨by decide, by decide⟩ ⟨by decide, by decide⟩ ⟨by decide, by decide⟩ ⟨by decide, by decide⟩ (by decide) (by decide) rfl (by decide) (by decide) (fun e => absurd rfl e) (fun _ => rfl) hr.fn hr.fl hr.fc hr.fa hr.row hr.kt hr.sub
    · exact hr

theorem docK_len {x : T} {n : Nat} (K : Int) (t m : ByteArray) (a b h : Int) (bs : List UInt8) (ks : List (ByteArray × T)) (hx : x = .mk K t m a b h bs ks) (hn : ks.length ≤ n) (h1 : 1 ≤ n) : (docK x).length ≤ n := by
  subst hx
  rw [docK]
  split
  · exact hn
  · simpa using h1
theorem zzFitsT (x : T) (L : Nat) (v : Value) (w : World) (hv : VAt w L x v) : Calls Tryz.prog 4 #[v] w (AnsB (fun r => r = true → (docK x).length ≤ 2147483647) w) := by
  cases hv with
  | mk K t m n b h bs ks ba ka bn bc kn kc g o kb ko C hK hn hb hh ht hm hbn hbl hbc hbs hba hkn hkl hkc hka hks hkt hsub =>
  refine (zzFits1 K t m n b h ba ka bn bc kn kc w).mono ?_
  rintro e w' ⟨r, rfl, hr, hb⟩
  exact ⟨r, rfl, fun e => docK_len K t m n b h bs ks rfl (by have := hr e; omega) (by decide), hb⟩

end Go.Proofs.YtpkfdbhpmhahaaaGreatDoor

/- The law: what its walk keeps: the documents in their variables, the row of all parts. -/
namespace Go.Proofs.YtpkfdbhpmhahaaaGreatDoor
open Go Go.RowKit
set_option linter.unusedSimpArgs false
set_option linter.unusedVariables false

/-- Two values lie in two variables of their own. -/
structure Two (w : World) (x y : T) (g1 g2 : Nat) (A B : Array Value) (W : World) : Prop where
  bel : Below w.heap.size w W
  h1 : W.heap[g1]? = some (.cells A 26 (0, 0))
  h2 : W.heap[g2]? = some (.cells B 26 (0, 0))
  ne : g1 ≠ g2

theorem x_load26 {ev : Operand → Value} {o : Oper} {x : Operand} {b : Nat} {cs : List Value} {W : World} (ho : o.op = .load 26 x) (hx : ev x = .pointer (some ⟨b, 0, none⟩)) (hc : W.rangeAt b 0 cs) (hi : (Tryz.prog.info? 26).map (·.size) = some cs.length) : (execOp ev o).run Tryz.prog W = .ok (.value (.agg cs.toArray)) W := by
  unfold execOp
  simp only [ho, hx, Instr.loadAt, Instr.sureAddr, Sem.run_bind, Sem.run_pure, Result.andThen_ok, run_loadVar_mid W b 0 26 cs _ hc Tryz.underlying26 rfl hi]

theorem step_store_row {P : Program} {ops : Array Oper} {o : Oper} {a : Act} {w : World} {K : Act → World → Prop} {Q : Exit → Act → World → Prop} {E : Prop} (hg : o.guard = none) (ty : TypeId) (x y : Operand) (ho : o.op = .store ty x y)
    (g : Nat) (cells : Array Value) (hx : a.eval x = .pointer (some ⟨g, 0, none⟩)) (hy : a.eval y = .agg cells)
    (t : TypeId) (old : Array Value) (hgw : w.heap[g]? = some (.cells old t (0, 0))) (hi : (P.info? ty).map (·.size) = some cells.size)
    (hold : old.size = cells.size) (h1 : cells.all (·.oneCell') = true)
    (hK : K (a.put o.dst undef) (w.setRow g cells)) : if Region.wanted o (yielded ops a.tmps) = true then Oper.wp P o a w K Q else E := by
  have hw : Region.wanted o (yielded ops a.tmps) = true := by simp [Region.wanted, hg]
  rw [if_pos hw]
  exact wp_store_row ty x y ho g cells hx hy t old hgw hi hold h1 hK
theorem info26v {K : Int} {t m : ByteArray} {n b h : Int} {bv kv : Value} : (Tryz.prog.info? 26).map (·.size) = some (vcells K t m n b h bv kv).size := by rw [info26]; rfl
theorem info26l {K : Int} {t m : ByteArray} {n b h : Int} {bv kv : Value} : (Tryz.prog.info? 26).map (·.size) = some (vcells K t m n b h bv kv).toList.length := by rw [info26]; rfl

structure Zq (x : T) (cs : Array Value) : Prop where
  out : ∀ W, Calls Tryz.prog 4 #[.agg cs] W (AnsB (fun r => r = true → (docK x).length ≤ 2147483647) W)
theorem zq {w : World} {L : Nat} {x : T} {cs : Array Value} (hx : VAt w L x (.agg cs)) : Zq x cs := ⟨fun W => by
  generalize hv : Value.agg cs = v at hx
  cases hx with
  | mk K t m n b h bs ks ba ka bn bc kn kc g o kb ko C hK hn hb hh ht hm hbn hbl hbc hbs hba hkn hkl hkc hka hks hkt hsub =>
  cases hv
  refine (zzFits1 K t m n b h ba ka bn bc kn kc W).mono ?_
  rintro e w' ⟨r, rfl, hr, hb⟩
  exact ⟨r, rfl, fun e => docK_len K t m n b h bs ks rfl (by have := hr e; omega) (by decide), hb⟩⟩

/-- A document lies in a variable of its own. -/
structure DocIn (x : T) (g : Nat) (K : Int) (t m : ByteArray) (n b h : Int) (bs : List UInt8) (bv : Value) (ka : Option Addr) (kn kc kb ko : Nat) (C : Nat → Array Value) (W : World) : Prop where
  hg : W.heap[g]? = some (.cells (vcells K t m n b h bv (.slice ka kn kc)) 26 (0, 0))
  d : DocV x K t m n b h bs bv ka kn kc kb ko C W
theorem DocV.kept {x : T} {K : Int} {t m : ByteArray} {n b h : Int} {bs : List UInt8} {bv : Value} {ka : Option Addr} {kn kc kb ko : Nat} {C : Nat → Array Value} {W W' : World} (d : DocV x K t m n b h bs bv ka kn kc kb ko C W) (hb : Below W.heap.size W W') : DocV x K t m n b h bs bv ka kn kc kb ko C W' :=
  ⟨d.v.kept hb.size (fun k hk => hb.block k hk), d.r.kept hb.size (fun k hk => hb.block k hk)⟩
theorem DocIn.kept {x : T} {g : Nat} {K : Int} {t m : ByteArray} {n b h : Int} {bs : List UInt8} {bv : Value} {ka : Option Addr} {kn kc kb ko : Nat} {C : Nat → Array Value} {W W' : World} (d : DocIn x g K t m n b h bs bv ka kn kc kb ko C W) (hb : Below W.heap.size W W') : DocIn x g K t m n b h bs bv ka kn kc kb ko C W' :=
  ⟨(hb.block _ (lt_of_heap d.hg)).trans d.hg, d.d.kept hb⟩
theorem DocIn.range {x : T} {g : Nat} {K : Int} {t m : ByteArray} {n b h : Int} {bs : List UInt8} {bv : Value} {ka : Option Addr} {kn kc kb ko : Nat} {C : Nat → Array Value} {W : World} (d : DocIn x g K t m n b h bs bv ka kn kc kb ko C W) : W.rangeAt g 0 (vcells K t m n b h bv (.slice ka kn kc)).toList := row_range d.hg
def DocAt (x : T) (g : Nat) (W : World) : Prop := ∃ (K : Int) (t m : ByteArray) (n b h : Int) (bs : List UInt8) (bv : Value) (ka : Option Addr) (kn kc kb ko : Nat) (C : Nat → Array Value), DocIn x g K t m n b h bs bv ka kn kc kb ko C W
theorem DocAt.kept {x : T} {g : Nat} {W W' : World} (d : DocAt x g W) (hb : Below W.heap.size W W') : DocAt x g W' := by
  obtain ⟨K, t, m, n, b, h, bs, bv, ka, kn, kc, kb, ko, C, hd⟩ := d
  exact ⟨K, t, m, n, b, h, bs, bv, ka, kn, kc, kb, ko, C, hd.kept hb⟩
/-- Both documents lie so. -/
structure Pair (w : World) (x y : T) (g1 g2 : Nat) (W : World) : Prop where
  bel : Below w.heap.size w W
  ne : g1 ≠ g2
  a : DocAt x g1 W
  b : DocAt y g2 W

/-- The cells of a row of parts. -/
def kidsRow (ks : List (ByteArray × T)) (C : Nat → Array Value) : List Value := (List.range ks.length).flatMap fun i => .string ((ks.getD i (⟨#[]⟩, .mk 0 ⟨#[]⟩ ⟨#[]⟩ 0 0 0 [] [])).1) :: (C i).toList

abbrev Zero26 : Array Value := #[.int .i64 0, .string ⟨#[]⟩, .string ⟨#[]⟩, .int .i64 0, .int .u64 0, .int .u64 0, .slice none 0 0, .slice none 0 0]
/-- The row that the call makes of all parts, and the third document's variable. -/
structure Rw (W3 : World) (v : Value) (n : Nat) (xs : List Value) (g : Option Nat) (W : World) : Prop where
  bel : Below W3.heap.size W3 W
  own : W.ownsRow W3.heap.size 33 9 v n xs
  far : ∀ g9, g = some g9 → W3.heap.size ≤ g9 ∧ v.ownBlock ≠ some g9 ∧ W.heap[g9]? = some (.cells Zero26 26 (0, 0))
theorem Rw.start (W3 : World) : Rw W3 (.slice none 0 0) 0 [] none W3 := ⟨Below.refl _ _, World.ownsRow_nil _ _ _ _, fun _ e => by cases e⟩
theorem Rw.alloc {W3 : World} {v : Value} {n : Nat} {xs : List Value} {W : World} (h : Rw W3 v n xs none W) : Rw W3 v n xs (some W.heap.size) (W.alloc (.cells Zero26 26)) :=
  ⟨h.bel.alloc h.bel.size _, h.own.alloc _, fun g9 e => by
    cases e
    exact ⟨h.bel.size, fun e => by have := h.own.lt _ e; omega, heap_alloc_new _ _⟩⟩
theorem Rw.build {W3 : World} {v : Value} {n : Nat} {xs : List Value} {g : Option Nat} {W : World} (h : Rw W3 v n xs g W) : Rw W3 (.slice (some ⟨W.heap.size, 0, none⟩) 0 0) 0 [] g (W.alloc (.cells #[] 33)) :=
  ⟨h.bel.alloc h.bel.size _, World.ownsRow_made W #[] 0 h.bel.size (by decide) rfl, fun g9 e => by
    obtain ⟨h1, h2, h3⟩ := h.far g9 e
    have hlt := lt_of_heap h3
    exact ⟨h1, fun e => by simp [Value.ownBlock] at e; omega, (Below.heap_alloc _ _ _ hlt).trans h3⟩⟩

theorem info33z : ∃ z, (Tryz.prog.info? 33).map (fun i => (i.zero, i.size, i.bytes)) = some (some z, 9, 128) ∧ z.cells.size = 9 := ⟨.agg #[.string ⟨#[]⟩, .int .i64 0, .string ⟨#[]⟩, .string ⟨#[]⟩, .int .i64 0, .int .u64 0, .int .u64 0, .slice none 0 0, .slice none 0 0], by kernel_rfl, rfl⟩

/-- A row of parts that came is put behind the row. -/
theorem Rw.append {W3 : World} {v : Value} {n : Nat} {xs : List Value} {g : Option Nat} {W : World} (h : Rw W3 v n xs g W) (hv : ∃ a c, v = .slice (some a) n c) (ka : Option Addr) (kn kc kb ko : Nat) (news : List Value) (hl : news.length = kn * 9) (hk : kn ≤ kc) (hka : 0 < kn → ka = some ⟨kb, ko, none⟩ ∧ W.rangeAt kb ko news) (h1 : ∀ u ∈ news, u.oneCell' = true) (hn : n + kn ≤ 5000000000) (ty : TypeId) :
    ∃ gk cap W', (Builtin.append_ #[24, 24] ty #[v, .slice ka kn kc]).run Tryz.prog W = .ok (.slice (some ⟨gk, 0, none⟩) (n + kn) cap) W' ∧ Rw W3 (.slice (some ⟨gk, 0, none⟩) (n + kn) cap) (n + kn) (xs ++ news) g W' := by
  obtain ⟨z, hi33, hz9⟩ := info33z
  obtain ⟨i0, hi0, hz0, hz1, hz2⟩ := info_parts hi33
  obtain ⟨a, c, rfl⟩ := hv
  have hform : ∃ gk, a = ⟨gk, 0, none⟩ := by
    rcases h.own.2 with ⟨e, _⟩ | ⟨gk, cap, cur, e, _⟩
    · cases e
    · simp only [Value.slice.injEq, Option.some.injEq] at e
      exact ⟨gk, e.1⟩
  obtain ⟨gk, rfl⟩ := hform
  rcases Nat.eq_zero_or_pos kn with rfl | hpos
  · obtain rfl : news = [] := List.eq_nil_of_length_eq_zero (by simpa using hl)
    have hle : n ≤ c := by
      rcases h.own.2 with ⟨e, _⟩ | ⟨gk', cap, cur, e, _, _, hle, _⟩
      · cases e
      · simp only [Value.slice.injEq, Option.some.injEq] at e
        omega
    have hsrc : Src Tryz.prog i0.size 24 (.slice ka 0 kc) 0 [] W := by
      cases ka with
      | none => exact Src.ofNil W Tryz.underlying24 kc
      | some ad => exact Src.ofSlice W Tryz.underlying24 ad 0 kc [] (by simp) (fun j u hu => by simp at hu) (fun u hu => by cases hu)
    refine ⟨gk, c, W, run_append_nothing W 24 24 ty 33 i0 Tryz.underlying24 hi0 _ n c hle _ hsrc, ?_⟩
    simpa using h
  · obtain ⟨hka1, hka2⟩ := hka hpos
    subst hka1
    have hnews : ∀ j u, news[j]? = some u → W.cell? ((⟨kb, ko, none⟩ : Addr).add j) = some u := fun j u hu => by
      rw [Addr.add_mid]
      exact hka2 j u hu
    obtain ⟨g', cap, W', hr, h2, h3, h4, h5⟩ := run_append_lies (P := Tryz.prog) W 24 ty W3.heap.size 33 i0 z 9 128 Tryz.underlying24 hi0 hz0 hz1 hz2 hz9 (by decide) _ n xs h.own ⟨kb, ko, none⟩ kn kc news hl hnews h1 hpos (by unfold maxLen; omega) (by omega) h.bel.size W.heap.size rfl
    have hlt := h.own.lt gk rfl
    refine ⟨g', cap, W', hr, ⟨?_, h2, fun g9 e => ?_⟩⟩
    · exact ⟨h3.os.trans h.bel.os, h3.tape.trans h.bel.tape, h3.output.trans h.bel.output, Nat.le_trans h.bel.size h3.size, fun k hk => (h3.block k (Nat.lt_of_lt_of_le hk h.bel.size) (fun e => by simp [Value.ownBlock] at e; omega)).trans (h.bel.block k hk)⟩
    · obtain ⟨e1, e2, e3⟩ := h.far g9 e
      have hlt9 := lt_of_heap e3
      refine ⟨e1, fun e => ?_, (h3.block _ hlt9 (fun e => e2 e.symm)).trans e3⟩
      simp [Value.ownBlock] at e
      rcases h4 with h4 | h4
      · exact e2 (by rw [h4, e])
      · omega

theorem step_append_kids {ops : Array Oper} {o : Oper} {a : Act} {W3 W : World} {K : Act → World → Prop} {Q : Exit → Act → World → Prop} {E : Prop} (hgd : o.guard = none) (d : Option Tmp) (hd : o.dst = d) (s x : Operand) (ho : o.op = .call { callee := .builtin .append, args := #[s, x], argTypes := #[24, 24] })
    {v : Value} {n : Nat} {xs : List Value} {g : Option Nat} (h : Rw W3 v n xs g W) (hv : ∃ a c, v = .slice (some a) n c) (ka : Option Addr) (kn kc kb ko : Nat) (news : List Value) (hs : a.eval s = v) (hx : a.eval x = .slice ka kn kc) (hl : news.length = kn * 9) (hk : kn ≤ kc) (hka : 0 < kn → ka = some ⟨kb, ko, none⟩ ∧ W.rangeAt kb ko news) (h1 : ∀ u ∈ news, u.oneCell' = true) (hn : n + kn ≤ 5000000000) (N : Nat) (hN : n + kn = N)
    (hK : ∀ gk cap W', Rw W3 (.slice (some ⟨gk, 0, none⟩) N cap) N (xs ++ news) g W' → K (a.put d (.slice (some ⟨gk, 0, none⟩) N cap)) W') : if Region.wanted o (yielded ops a.tmps) = true then Oper.wp Tryz.prog o a W K Q else E := by
  subst hd hN
  have hw : Region.wanted o (yielded ops a.tmps) = true := by simp [Region.wanted, hgd]
  rw [if_pos hw]
  obtain ⟨gk, cap, W', hr, h2⟩ := h.append hv ka kn kc kb ko news hl hk hka h1 hn o.type
  unfold Oper.wp execOp
  simp only [ho, resolve, invoke, builtin, Sem.run_bind, Sem.run_pure, Result.andThen_ok, List.map_toArray, List.map_cons, List.map_nil, hs, hx, hr]
  exact hK gk cap W' h2

theorem x_build0 {ev : Operand → Value} {o : Oper} {W : World} (ho : o.op = .buildSlice 24 0 #[]) : (execOp ev o).run Tryz.prog W = .ok (.value (.slice (some ⟨W.heap.size, 0, none⟩) 0 0)) (W.alloc (.cells #[] 33)) := by
  simp [execOp, ho]
  go_simp
theorem step_build0 {ops : Array Oper} {o : Oper} {a : Act} {W3 W : World} {K : Act → World → Prop} {Q : Exit → Act → World → Prop} {E : Prop} (hgd : o.guard = none) (d : Option Tmp) (hd : o.dst = d) (ho : o.op = .buildSlice 24 0 #[])
    {v : Value} {n : Nat} {xs : List Value} {g : Option Nat} (h : Rw W3 v n xs g W) (hK : ∀ g0 W', Rw W3 (.slice (some ⟨g0, 0, none⟩) 0 0) 0 [] g W' → K (a.put d (.slice (some ⟨g0, 0, none⟩) 0 0)) W') : if Region.wanted o (yielded ops a.tmps) = true then Oper.wp Tryz.prog o a W K Q else E :=
  step_value hgd d hd (x_build0 ho) (hK _ _ h.build)
theorem step_alloc26 {ops : Array Oper} {o : Oper} {a : Act} {W3 W : World} {K : Act → World → Prop} {Q : Exit → Act → World → Prop} {E : Prop} (hgd : o.guard = none) (d : Option Tmp) (hd : o.dst = d) (ho : o.op = .alloc 26)
    {v : Value} {n : Nat} {xs : List Value} (h : Rw W3 v n xs none W) (hK : ∀ g9 W', Rw W3 v n xs (some g9) W' → K (a.put d (.pointer (some ⟨g9, 0, none⟩))) W') : if Region.wanted o (yielded ops a.tmps) = true then Oper.wp Tryz.prog o a W K Q else E := by
  refine step_value hgd d hd (v := .pointer (some ⟨W.heap.size, 0, none⟩)) (w' := W.alloc (.cells Zero26 26)) ?_ (hK _ _ h.alloc)
  simp [execOp, ho]
  go_simp
theorem x_build26 {ev : Operand → Value} {o : Oper} {W : World} {x : Operand} {ka : Option Addr} {kn kc : Nat} (ho : o.op = .build 26 #[(0, .const (.int .i64 3)), (7, x)]) (h0 : ev (.const (.int .i64 3)) = .int .i64 3) (hx : ev x = .slice ka kn kc) : (execOp ev o).run Tryz.prog W = .ok (.value (.agg (vcells 3 ⟨#[]⟩ ⟨#[]⟩ 0 0 0 (.slice none 0 0) (.slice ka kn kc)))) W := by
  unfold execOp
  simp only [ho, Sem.run_bind]
  have := run_build W 26 #[(0, .int .i64 3), (7, .slice ka kn kc)] (P := Tryz.prog) (vcells 3 ⟨#[]⟩ ⟨#[]⟩ 0 0 0 (.slice none 0 0) (.slice ka kn kc)) (by kernel_rfl)
  simp [h0, hx, this]

theorem kidsRow_length (ks : List (ByteArray × T)) (C : Nat → Array Value) (h8 : ∀ i, i < ks.length → (C i).size = 8) : (kidsRow ks C).length = ks.length * 9 := by
  unfold kidsRow
  rw [List.length_flatMap]
  have : (List.range ks.length).map (fun i => (Value.string ((ks.getD i (⟨#[]⟩, .mk 0 ⟨#[]⟩ ⟨#[]⟩ 0 0 0 [] [])).1) :: (C i).toList).length) = List.replicate ks.length 9 := by
    apply List.ext_getElem (by simp)
    intro i h1 h2
    simp at h1 ⊢
    exact h8 i h1
  rw [this]
  simp
theorem flatMap_at {α : Type} (k : Nat) : ∀ (n : Nat) (f : Nat → List α) (h : ∀ i, i < n → (f i).length = k) (i : Nat) (hi : i < n) (j : Nat) (hj : j < k), ((List.range n).flatMap f)[i * k + j]? = (f i)[j]?
  | 0, _, _, i, hi, _, _ => absurd hi (by omega)
  | n + 1, f, h, i, hi, j, hj => by
    have hlen : ((List.range n).flatMap f).length = n * k := by
      rw [List.length_flatMap]
      have : (List.range n).map (fun i => (f i).length) = List.replicate n k := by
        apply List.ext_getElem (by simp)
        intro i h1 h2
        simp at h1 ⊢
        exact h i (by omega)
      rw [this]
      simp
    rw [List.range_succ, List.flatMap_append]
    rcases Nat.lt_or_ge i n with h1 | h1
    · have : i * k + j < n * k := by
        have := Nat.mul_le_mul_right k (show i + 1 ≤ n by omega)
        rw [Nat.add_mul] at this
        omega
      rw [List.getElem?_append_left (by omega)]
      exact flatMap_at k n f (fun i hi => h i (by omega)) i h1 j hj
    · obtain rfl : i = n := by omega
      rw [List.getElem?_append_right (by omega), hlen]
      simp
theorem kidsRow_at (ks : List (ByteArray × T)) (C : Nat → Array Value) (h8 : ∀ i, i < ks.length → (C i).size = 8) (i : Nat) (hi : i < ks.length) (j : Nat) (hj : j < 9) : (kidsRow ks C)[i * 9 + j]? = (Value.string (ks[i].1) :: (C i).toList)[j]? := by
  unfold kidsRow
  rw [flatMap_at 9 _ _ (fun i hi => by simp [h8 i hi]) i hi j hj]
  rw [show ks.getD i (⟨#[]⟩, .mk 0 ⟨#[]⟩ ⟨#[]⟩ 0 0 0 [] []) = ks[i] by simp [hi]]
theorem kidsRow_one (ks : List (ByteArray × T)) (C : Nat → Array Value) (h1 : ∀ i, i < ks.length → (C i).all (·.oneCell') = true) : ∀ u ∈ kidsRow ks C, u.oneCell' = true := by
  intro u hu
  unfold kidsRow at hu
  obtain ⟨i, hi, h2⟩ := List.mem_flatMap.1 hu
  rcases List.mem_cons.1 h2 with rfl | h3
  · rfl
  · exact (Array.all_eq_true_iff_forall_mem.1 (h1 i (by simpa using hi))) u (by simpa using h3)
/-- The cells that a row of parts stands in. -/
theorem KRow.news {w : World} {L : Nat} {ks : List (ByteArray × T)} {ka : Option Addr} {kn kc kb ko : Nat} {C : Nat → Array Value} (h : KRow w L ks ka kn kc kb ko C) : (kidsRow ks C).length = kn * 9 ∧ (0 < kn → ka = some ⟨kb, ko, none⟩ ∧ w.rangeAt kb ko (kidsRow ks C)) ∧ (∀ u ∈ kidsRow ks C, u.oneCell' = true) := by
  have h8 : ∀ i, i < ks.length → (C i).size = 8 ∧ (C i).all (·.oneCell') = true := fun i hi => (h.sub i hi).size
  refine ⟨by rw [kidsRow_length ks C (fun i hi => (h8 i hi).1), h.fn], fun h0 => ⟨(h.fa (by rintro rfl; have := h.fn; simp at this; omega)).1, fun j v hv => ?_⟩, kidsRow_one ks C (fun i hi => (h8 i hi).2)⟩
  have hj : j < ks.length * 9 := by
    have := (List.getElem?_eq_some_iff.1 hv).1
    rwa [kidsRow_length ks C (fun i hi => (h8 i hi).1)] at this
  have e : j = j / 9 * 9 + j % 9 := by omega
  have hi : j / 9 < ks.length := by omega
  rw [e, kidsRow_at ks C (fun i hi => (h8 i hi).1) _ hi _ (by omega)] at hv
  have := h.row (j / 9) hi (j % 9) v hv
  rwa [show ko + j / 9 * 9 + j % 9 = ko + j by omega] at this
/-- A row of one's own that holds these cells is a row of parts. -/
theorem krow_of_own {W0 W : World} {base gk cap n L : Nat} {ka kb : List (ByteArray × T)} {Ca Cb : Nat → Array Value} (ho : W.ownsRow base 33 9 (.slice (some ⟨gk, 0, none⟩) n cap) n (kidsRow ka Ca ++ kidsRow kb Cb)) (hn : n = ka.length + kb.length) (hb : n ≤ 9223372036854775807)
    (ha8 : ∀ i (hi : i < ka.length), VAt W L (ka[i].2) (.agg (Ca i)) ∧ (ka[i].1).size ≤ 9223372036854775807) (hb8 : ∀ i (hi : i < kb.length), VAt W L (kb[i].2) (.agg (Cb i)) ∧ (kb[i].1).size ≤ 9223372036854775807) (hL : L ≤ W.heap.size) :
    KRow W W.heap.size (ka ++ kb) (some ⟨gk, 0, none⟩) n cap gk 0 (fun i => if i < ka.length then Ca i else Cb (i - ka.length)) := by
  have la := kidsRow_length ka Ca (fun i hi => (ha8 i hi).1.size.1)
  have hlt := (ho.lt gk rfl).2
  have hcap : n ≤ cap := by
    rcases ho.2 with ⟨e, _⟩ | ⟨gk', cap', cur, e, _, _, hle, _⟩
    · cases e
    · simp only [Value.slice.injEq, Option.some.injEq] at e
      omega
  refine ⟨by rw [hn]; simp, hb, hcap, fun _ => ⟨rfl, hlt⟩, fun i hi j v hv => ?_, fun i hi => ?_, fun i hi => ?_⟩
  · have hj : j < 9 := by
      have := (List.getElem?_eq_some_iff.1 hv).1
      simp only [List.length_append] at hi
      split at this
      · rename_i h2; simpa [(ha8 i h2).1.size.1] using this
      · rename_i h2; simpa [(hb8 (i - ka.length) (by omega)).1.size.1] using this
    simp only [List.length_append] at hi
    rw [show (0 : Nat) + i * 9 + j = i * 9 + j by omega, ho.cellAt (i * 9 + j) (by omega)]
    by_cases h2 : i < ka.length
    · rw [List.getElem?_append_left (by omega), kidsRow_at ka Ca (fun i hi => (ha8 i hi).1.size.1) i h2 j hj]
      rw [if_pos h2] at hv
      rwa [List.getElem_append_left h2] at hv
    · rw [List.getElem?_append_right (by omega), la, show i * 9 + j - ka.length * 9 = (i - ka.length) * 9 + j by omega, kidsRow_at kb Cb (fun i hi => (hb8 i hi).1.size.1) (i - ka.length) (by omega) j hj]
      rw [if_neg h2] at hv
      rwa [List.getElem_append_right (by omega)] at hv
  · simp only [List.length_append] at hi
    by_cases h2 : i < ka.length
    · rw [List.getElem_append_left h2]; exact (ha8 i h2).2
    · rw [List.getElem_append_right (by omega)]; exact (hb8 _ (by omega)).2
  · simp only [List.length_append] at hi
    by_cases h2 : i < ka.length
    · rw [List.getElem_append_left h2, if_pos h2]; exact (ha8 i h2).1.kept hL (fun _ _ => rfl)
    · rw [List.getElem_append_right (by omega), if_neg h2]; exact (hb8 _ (by omega)).1.kept hL (fun _ _ => rfl)

theorem Rw.drew {W3 : World} {v : Value} {n : Nat} {xs : List Value} {g : Option Nat} {W : World} (h : Rw W3 v n xs g W) : Rw W3 v n xs g W.drew := ⟨below_drew h.bel, h.own, h.far⟩
/-- The third document's variable is written. -/
theorem Rw.set {W3 : World} {v : Value} {n : Nat} {xs : List Value} {g9 : Nat} {W : World} (h : Rw W3 v n xs (some g9) W) (A : Array Value) : Below W3.heap.size W3 (W.setRow g9 A) ∧ (W.setRow g9 A).heap[g9]? = some (.cells A 26 (0, 0)) ∧ (W.setRow g9 A).ownsRow W3.heap.size 33 9 v n xs := by
  obtain ⟨h1, h2, h3⟩ := h.far g9 rfl
  refine ⟨below_setRow h.bel h1 A, setRow_heap _ _ _ _ _ _ h3, ?_⟩
  exact h.own.kept (row := some g9) ⟨rfl, rfl, rfl, by simp, fun k hk hne => setRow_other _ _ _ _ (fun e => hne (by rw [e]))⟩ (.inr h2)

/-- The third document: the parts of both. -/
theorem both_vat {x y : T} {g1 g2 : Nat} {Ka Kb : Int} {ta ma tb mb : ByteArray} {na ba ha nb bb hb' : Int} {bsa bsb : List UInt8} {bva bvb : Value} {kaa kab : Option Addr} {kna kca kba koa knb kcb kbb kob : Nat} {Ca Cb : Nat → Array Value} {wd we : World} {gk cap n : Nat}
    (hda : DocIn x g1 Ka ta ma na ba ha bsa bva kaa kna kca kba koa Ca wd) (hdb : DocIn y g2 Kb tb mb nb bb hb' bsb bvb kab knb kcb kbb kob Cb wd) (hb : Below wd.heap.size wd we) (ho : we.ownsRow wd.heap.size 33 9 (.slice (some ⟨gk, 0, none⟩) n cap) n (kidsRow (docK x) Ca ++ kidsRow (docK y) Cb)) (hn : n = kna + knb) (hbd : n ≤ 5000000000) :
    VAt we we.heap.size (.mk 3 ⟨#[]⟩ ⟨#[]⟩ 0 0 0 [] (docK x ++ docK y)) (.agg (vcells 3 ⟨#[]⟩ ⟨#[]⟩ 0 0 0 (.slice none 0 0) (.slice (some ⟨gk, 0, none⟩) n cap))) := by
  have ra := (hda.kept hb).d.r
  have rb := (hdb.kept hb).d.r
  have hr := krow_of_own (W0 := wd) ho (by rw [hn, ra.fn, rb.fn]) (by omega) (fun i hi => ⟨ra.sub i hi, ra.kt i hi⟩) (fun i hi => ⟨rb.sub i hi, rb.kt i hi⟩) (Nat.le_refl _)
  exact .mk 3 ⟨#[]⟩ ⟨#[]⟩ 0 0 0 [] _ none _ 0 0 n cap 0 0 gk 0 _ ⟨by decide, by decide⟩ ⟨by decide, by decide⟩ ⟨by decide, by decide⟩ ⟨by decide, by decide⟩ (by decide) (by decide) rfl (by decide) (by decide) (fun e => absurd rfl e) (fun _ => rfl) hr.fn hr.fl hr.fc hr.fa hr.row hr.kt hr.sub

theorem nodesL_append : ∀ (a b : List (ByteArray × T)), nodesL (a ++ b) = nodesL a + nodesL b
  | [], b => by simp [nodesL]
  | (n, x) :: r, b => by
    rw [List.cons_append]
    simp only [nodesL]
    rw [nodesL_append r b]
    omega
/-- What the guard of the third document says of both. -/
theorem fit_both {ka kb : List (ByteArray × T)} (h : SmallT (.mk 3 ⟨#[]⟩ ⟨#[]⟩ 0 0 0 [] (ka ++ kb)) ∧ KnownT (.mk 3 ⟨#[]⟩ ⟨#[]⟩ 0 0 0 [] (ka ++ kb)) ∧ (T.mk 3 ⟨#[]⟩ ⟨#[]⟩ 0 0 0 [] (ka ++ kb)).nodes ≤ 300) :
    (∀ e ∈ ka ++ kb, e.1.size ≤ 300) ∧ (∀ e ∈ ka ++ kb, SmallT e.2) ∧ (∀ e ∈ ka ++ kb, KnownT e.2) ∧ nodesL ka + nodesL kb ≤ 299 := by
  obtain ⟨h1, h2, h3⟩ := h
  cases h1 with
  | mk hs hn hk =>
    cases h2 with
    | mk hK hs2 =>
      refine ⟨hn, hk, hs2 (.inl rfl), ?_⟩
      unfold T.nodes at h3
      rw [nodesL_append] at h3
      omega
theorem docX_len (can : Bool) (ks : List (ByteArray × T)) (hn : ∀ e ∈ ks, e.1.size ≤ 300) (hs : ∀ e ∈ ks, SmallT e.2) (hk : ∀ e ∈ ks, KnownT e.2) (ho : nodesL ks ≤ 300) : (docX can ks).length ≤ 10000000 := by
  have h1 := ktx_len can ks hn (fun e he => (vt_ok can e.2 (hs e he) (hk e he)).2)
  have h2 := clo_len ([123] ++ ktx can ks) 125
  unfold docX
  simp only [List.length_append, List.length_cons, List.length_nil] at h2 ⊢
  omega
theorem extract_list (l : List UInt8) (i j : Nat) : ((⟨l.toArray⟩ : ByteArray).extract i j).data.toList = (l.drop i).take (j - i) := by
  rw [ByteArray.data_extract, Array.toList_extract]
/-- The three texts. -/
theorem three (can : Bool) (ka kb : List (ByteArray × T)) (hn : ∀ e ∈ ka ++ kb, e.1.size ≤ 300) (hs : ∀ e ∈ ka ++ kb, SmallT e.2) (hk : ∀ e ∈ ka ++ kb, KnownT e.2) (ho : nodesL ka + nodesL kb ≤ 299) (hna : ka ≠ []) (hnb : kb ≠ []) (s t u : ByteArray) (es : s = ⟨(docX can ka).toArray⟩) (et : t = ⟨(docX can kb).toArray⟩) (eu : u = ⟨(docX can (ka ++ kb)).toArray⟩) :
    3 < s.size ∧ 3 < t.size ∧ s.size ≤ 10000000 ∧ t.size ≤ 10000000 ∧ u = s.extract 0 (s.size - 2) ++ ⟨#[44]⟩ ++ t.extract 1 t.size := by
  obtain ⟨h1, h2, h3⟩ := joinedB can ka kb (fun e he => (vt_ok can e.2 (hs e (List.mem_append_left _ he)) (hk e (List.mem_append_left _ he))).1) (fun e he => (vt_ok can e.2 (hs e (List.mem_append_right _ he)) (hk e (List.mem_append_right _ he))).1) hna hnb s t u es et eu
  have la := docX_len can ka (fun e he => hn e (List.mem_append_left _ he)) (fun e he => hs e (List.mem_append_left _ he)) (fun e he => hk e (List.mem_append_left _ he)) (by omega)
  have lb := docX_len can kb (fun e he => hn e (List.mem_append_right _ he)) (fun e he => hs e (List.mem_append_right _ he)) (fun e he => hk e (List.mem_append_right _ he)) (by omega)
  have ss : s.size = (docX can ka).length := by rw [es]; simp [ByteArray.size]
  have st : t.size = (docX can kb).length := by rw [et]; simp [ByteArray.size]
  refine ⟨h1, h2, by omega, by omega, ?_⟩
  have e2 : u.data.toList = (s.extract 0 (s.size - 2) ++ ⟨#[44]⟩ ++ t.extract 1 t.size).data.toList := by
    rw [ByteArray.toList_eq] at h3
    rw [h3, ByteArray.data_append, ByteArray.data_append, Array.toList_append, Array.toList_append, ss, st, es, et, extract_list, extract_list]
    simp only [List.drop_zero, Nat.sub_zero]
    rw [List.take_of_length_le (by simp : ((docX can kb).drop 1).length ≤ (docX can kb).length - 1)]
  have e3 := Array.toList_inj.1 e2
  generalize s.extract 0 (s.size - 2) ++ ⟨#[44]⟩ ++ t.extract 1 t.size = r at e3
  cases u
  cases r
  exact congrArg ByteArray.mk e3

theorem x_sub2 {ev : Operand → Value} {o : Oper} {x : Operand} {n : Nat} {W : World} (ho : o.op = .binOp .sub 3 x (.const (.int .i64 2)) 3) (hc : ev (.const (.int .i64 2)) = .int .i64 2) (h : ev x = .int .i64 (n : Nat)) (h2 : 3 < n) (hb : n ≤ 10000000) : (execOp ev o).run Tryz.prog W = .ok (.value (.int .i64 ((n - 2 : Nat) : Int))) W := by
  simp [execOp, ho, h, hc]
  go_simp
  rw [IntKind.wrap_i64]
  omega
theorem x_gt3 {ev : Operand → Value} {o : Oper} {x : Operand} {n : Nat} {W : World} (ho : o.op = .binOp .gtr 3 x (.const (.int .i64 3)) 3) (hc : ev (.const (.int .i64 3)) = .int .i64 3) (h : ev x = .int .i64 (n : Nat)) (h2 : 3 < n) : (execOp ev o).run Tryz.prog W = .ok (.value (.bool true)) W := by
  simp [execOp, ho, h, hc]
  go_simp
  omega
theorem x_sliceH {ev : Operand → Value} {o : Oper} {x y : Operand} {s : ByteArray} {p : Nat} {W : World} (ho : o.op = .slice 9 x none (some y) none) (hx : ev x = .string s) (hy : ev y = .int .i64 (p : Nat)) (hp : p ≤ s.size) : (execOp ev o).run Tryz.prog W = .ok (.value (.string (s.extract 0 p))) W := by
  have h3 : (0 : Int) ≤ (p : Nat) := by omega
  have h4 : (p : Int) ≤ (s.size : Nat) := by omega
  simp [execOp, ho, hx, hy]
  go_simp
theorem x_sliceL {ev : Operand → Value} {o : Oper} {x : Operand} {s : ByteArray} {W : World} (ho : o.op = .slice 9 x (some (.const (.int .i64 1))) none none) (hc : ev (.const (.int .i64 1)) = .int .i64 1) (hx : ev x = .string s) (hp : 3 < s.size) : (execOp ev o).run Tryz.prog W = .ok (.value (.string (s.extract 1 s.size))) W := by
  have h4 : (1 : Int) ≤ (s.size : Nat) := by omega
  simp [execOp, ho, hx, hc]
  go_simp
theorem x_eqlS {ev : Operand → Value} {o : Oper} {x y : Operand} {a b : ByteArray} {W : World} (ho : o.op = .binOp .eql 9 x y 9) (hx : ev x = .string a) (hy : ev y = .string b) (hr : a = b) : (execOp ev o).run Tryz.prog W = .ok (.value (.bool true)) W := by
  subst hr
  simp [execOp, ho, hx, hy]
  go_simp

end Go.Proofs.YtpkfdbhpmhahaaaGreatDoor
