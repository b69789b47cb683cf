/- A string of JSON, as the reference reads it: what a round keeps. -/
import Derived.Test.YtdabllkphibfmaaGreatDoorRdC
import Derived.Test.YtdabllkphibfmaaGreatDoorRdD
import Derived.Test.YtdabllkphibfmaaGreatDoorZz
import Derived.Lib.AppendStr
import Derived.Lib.Strings
import Derived.Deep.RegionLaw
namespace Go.Proofs.YtdabllkphibfmaaGreatDoor
open Go Go.RowKit
set_option linter.unusedSimpArgs false
set_option linter.unusedVariables false

def TextOk (s : ByteArray) : StrEnd → ByteArray → Bool → Nat → Prop
  | .ok str r, txt, ok, q' => ok = true ∧ txt = ⟨str.toArray⟩ ∧ s.data.toList.drop q' = r
  | .err, _, ok, _ => ok = false
  | .out, _, _, _ => False

/-- What text gives. -/
def TextPost (b : Nat) (s : ByteArray) (E : StrEnd) (w : World) (e : Ending) (w' : World) : Prop :=
  ∃ (txt : ByteArray) (ok far' : Bool) (q' : Nat), e = .returned (.tuple #[.string txt, .bool ok]) ∧ q' ≤ s.size ∧ RdAt b s q' far' w' ∧ Fb1 b w w' ∧ (far' = true → ok = false) ∧ (far' = false → TextOk s E txt ok q')

/-- At the head of a round: acc is written, q bytes are behind. -/
structure Tx (b : Nat) (s : ByteArray) (w : World) (E : StrEnd) (q : Nat) (acc : List UInt8) (v : Value) (wx : World) : Prop where
  le : q ≤ s.size
  al : acc.length ≤ q
  own : wx.ownsRow w.heap.size 5 1 v acc.length (Lib.byteCells acc)
  rd : RdAt b s q false wx
  fr : Fb1 b w wx
  run : strAll acc (s.data.toList.drop q) = E

theorem fb_set {b : Nat} {a w : World} (h : Fb1 b a w) (i : Nat) (v : Value) : Fb1 b a (w.setCell ⟨b, i, none⟩ v) := Fr.setCell (p := ⟨b, i, none⟩) h (.inl rfl) v
theorem fb_n {b : Nat} {a w : World} (h : Fb1 b a w) (n : Nat) : Fb1 b a (w.drewN n) := Fr.drewN h n
theorem fb_refl (b : Nat) (w : World) : Fb1 b w w := Fr.refl _ w

theorem own_fr {w1 w2 : World} {b base n : Nat} {v : Value} {xs : List Value} (h : w1.ownsRow base 5 1 v n xs) (hf : Fb1 b w1 w2) (hb : b < base) : w2.ownsRow base 5 1 v n xs :=
  ownsRow_of h fun k hk => hf.block k (h.lt k hk).2 (by have := (h.lt k hk).1; omega)

theorem fr_grown {b B : Nat} {w w1 w2 : World} {row : Option Nat} (h : Fb1 b w w1) (hg : w1.grownBy w2 row) (hB : w.heap.size ≤ B) (hr : ∀ k, row = some k → B ≤ k) : Fb1 b w w2 :=
  ⟨hg.os.trans h.os, hg.tape.trans h.tape, hg.output.trans h.output, Nat.le_trans h.size hg.size, fun k hk hn => (hg.block k (Nat.lt_of_lt_of_le hk h.size) (fun e => by have := hr k e.symm; omega)).trans (h.block k hk hn)⟩

theorem rd_grown {b B : Nat} {s : ByteArray} {q : Nat} {far : Bool} {w1 w2 : World} {row : Option Nat} (h : RdAt b s q far w1) (hg : w1.grownBy w2 row) (hr : ∀ k, row = some k → B ≤ k) (hb : b < B) : RdAt b s q far w2 :=
  (hg.block b (lt_of_heap h) (fun e => by have := hr b e.symm; omega)).trans h

theorem rd_alloc {b : Nat} {s : ByteArray} {q : Nat} {far : Bool} {w1 : World} (h : RdAt b s q far w1) (o : Obj) : RdAt b s q far (w1.alloc o) := (Below.heap_alloc _ _ _ (lt_of_heap h)).trans h

/-- One byte is written. -/
theorem tx_one {b : Nat} {s : ByteArray} {w : World} {E : StrEnd} {q : Nat} {acc : List UInt8} {v : Value} {wr W w3 : World} {x : UInt8} {q' gg cap : Nat} {o : Obj} (hT : Tx b s w E q acc v wr) (hb : b < w.heap.size)
    (hstep : strStep (s.data.toList.drop q) = .more [x] (s.data.toList.drop q')) (hq : q < q') (hq' : q' ≤ s.size) (hR : RdAt b s q' false W) (hF : Fb1 b wr W) (hG : (W.alloc o).grownBy w3 v.ownBlock)
    (hO : w3.ownsRow w.heap.size 5 1 (.slice (some ⟨gg, 0, none⟩) (acc.length + 1) cap) (acc.length + 1) (Lib.byteCells acc ++ [.int .u8 (x.toNat : Int)])) : Tx b s w E q' (acc ++ [x]) (.slice (some ⟨gg, 0, none⟩) (acc.length + 1) cap) w3 := by
  have hr : ∀ k, v.ownBlock = some k → w.heap.size ≤ k := fun k hk => (hT.own.lt k hk).1
  refine ⟨hq', by have := hT.al; simp; omega, ?_, rd_grown (rd_alloc hR o) hG hr hb, fr_grown ((hT.fr.trans hF).alloc o) hG (Nat.le_refl _) hr, (strAll_more hstep).symm.trans hT.run⟩
  have e : Lib.byteCells (acc ++ [x]) = Lib.byteCells acc ++ [.int .u8 (x.toNat : Int)] := by simp [Lib.byteCells]
  rw [e, List.length_append]
  exact hO

/-- Some bytes are written. -/
theorem tx_more {b : Nat} {s : ByteArray} {w : World} {E : StrEnd} {q : Nat} {acc : List UInt8} {v : Value} {wr W w3 : World} {t : ByteArray} {q' : Nat} {v' : Value} (hT : Tx b s w E q acc v wr) (hb : b < w.heap.size)
    (hrun : strAll (acc ++ t.data.toList) (s.data.toList.drop q') = E) (hq : q + t.size ≤ q') (hq' : q' ≤ s.size) (hR : RdAt b s q' false W) (hF : Fb1 b wr W) (hG : W.grownBy w3 v.ownBlock)
    (hO : w3.ownsRow w.heap.size 5 1 v' (acc.length + t.size) (Lib.byteCells acc ++ Lib.strCells t)) : Tx b s w E q' (acc ++ t.data.toList) v' w3 := by
  have hr : ∀ k, v.ownBlock = some k → w.heap.size ≤ k := fun k hk => (hT.own.lt k hk).1
  refine ⟨hq', ?_, ?_, rd_grown hR hG hr hb, fr_grown (hT.fr.trans hF) hG (Nat.le_refl _) hr, hrun⟩
  · have := hT.al
    have e : t.data.toList.length = t.size := rfl
    simp only [List.length_append, e]
    omega
  · have e : Lib.byteCells (acc ++ t.data.toList) = Lib.byteCells acc ++ Lib.strCells t := by simp [Lib.byteCells, Lib.strCells]
    have e2 : (acc ++ t.data.toList).length = acc.length + t.size := by rw [List.length_append]; rfl
    rw [e, e2]
    exact hO

/-- A text is appended, as one step of a region that draws. -/
theorem step_append_string {ops : Array Oper} {o : Oper} {a : Act} {w : World} {K : Act → World → Prop} {Q : Exit → Act → World → Prop} {F : Prop} (hgd : o.guard = none) (sl x : Operand) (t u : TypeId)
    (ho : o.op = .call { callee := .builtin .append, args := #[sl, x], argTypes := #[t, u] })
    (base : Nat) (e : TypeId) (i : TypeInfo) (ht : Tryz.prog.underlying t = some (.slice e)) (hu : Tryz.prog.underlying u = some .string) (hi : Tryz.prog.info? e = some i) (hz : i.zero = some (.int .u8 0))
    (hsize : i.size = 1) (hby : i.bytes = 1)
    (v : Value) (n : Nat) (xs : List Value) (hs : a.eval sl = v) (hown : w.ownsRow base e 1 v n xs) (s : ByteArray) (hx : a.eval x = .string s)
    (h63 : n + s.size ≤ maxLen) (hbytes : n + s.size ≤ 140737488355328) (hbase : base ≤ w.heap.size)
    (h : ∀ v' w', w'.ownsRow base e 1 v' (n + s.size) (xs ++ Lib.strCells s) → w.grownBy w' v.ownBlock → K (a.put o.dst v') w') :
    if Region.wanted o (yielded ops a.tmps) = true then Oper.wp Tryz.prog o a w K Q else F := by
  have hw : Region.wanted o (yielded ops a.tmps) = true := by simp [Region.wanted, hgd]
  rw [if_pos hw]
  obtain ⟨v', w', hr, h2, h3, h4⟩ := Lib.run_append_own_string (P := Tryz.prog) w base t u o.type e i ht hu hi hz hsize hby v n xs hown s h63 hbytes hbase
  unfold Oper.wp execOp
  simp only [ho, resolve, invoke, builtin, Sem.run_bind, Sem.run_pure, Result.andThen_ok, List.map_toArray, List.map_cons, List.map_nil, hs, hx, hr]
  exact h v' w' h2 h3

theorem conv_nil (W : World) : (convert 31 9 (.slice none 0 0)).run Tryz.prog W = .ok (.string ⟨#[]⟩) W := by kernel_rfl

/-- A row of bytes of one's own as a text. -/
theorem conv_own {W : World} {base : Nat} {v : Value} {acc : List UInt8} (h : W.ownsRow base 5 1 v acc.length (Lib.byteCells acc)) : (convert 31 9 v).run Tryz.prog W = .ok (.string ⟨acc.toArray⟩) W := by
  rcases h.2 with ⟨rfl, h0⟩ | ⟨g, cap, cur, rfl, hb, hg, hn, hc, hs, ht⟩
  · have : acc = [] := List.eq_nil_of_length_eq_zero h0
    subst this
    exact conv_nil W
  · refine run_convert_bytes_back (P := Tryz.prog) W 31 9 5 ⟨g, 0, none⟩ cap acc Tryz.underlying31 Tryz.underlying5 Tryz.underlying9 (fun j hj => ?_)
    have e : (⟨g, 0, none⟩ : Addr).add j = ⟨g, j, none⟩ := by simp [Addr.add]; omega
    rw [e]
    exact row_cell hg (by rw [Nat.mul_one] at ht; exact ht) j hj

theorem info5 : (Tryz.prog.info? 5).map (fun i => (i.zero, i.size, i.bytes)) = some (some (.int .u8 0), 1, 1) := by kernel_rfl

theorem u8z (x : Int) (k : Nat) (h : x = k) : x.toNat.toUInt8 = UInt8.ofNat k := by subst h; rfl

/-- string(rune(n)), n a character's number. -/
theorem enc_rune (n : Nat) (h : n < 55296 ∨ (57344 ≤ n ∧ n < 1114112)) : (Utf8.encode (n : Int)).data.toList = runeB n := by
  have hv : Utf8.valid (n : Int) = true := by
    unfold Utf8.valid
    simp
    omega
  unfold Utf8.encode
  simp only [hv, if_true, Int.toNat_natCast]
  by_cases h1 : n < 128
  · rw [if_pos h1]
    show [UInt8.ofNat n] = runeB n
    rw [runeB, Lib.encodeRune, Lib.encodeRuneZ_one (by omega) (by omega)]
    rfl
  by_cases h2 : n < 2048
  · rw [if_neg h1, if_pos h2]
    show [UInt8.ofNat (192 + n / 64), UInt8.ofNat (128 + n % 64)] = runeB n
    rw [runeB, Lib.encodeRune, Lib.encodeRuneZ_two (by omega) (by omega)]
    simp only [List.map_cons, List.map_nil]
    rw [u8z _ (192 + n / 64) (by omega), u8z _ (128 + n % 64) (by omega)]
  by_cases h3 : n < 65536
  · rw [if_neg h1, if_neg h2, if_pos h3]
    show [UInt8.ofNat (224 + n / 4096), UInt8.ofNat (128 + n / 64 % 64), UInt8.ofNat (128 + n % 64)] = runeB n
    rw [runeB, Lib.encodeRune, Lib.encodeRuneZ_three (by omega)]
    simp only [List.map_cons, List.map_nil]
    rw [u8z _ (224 + n / 4096) (by omega), u8z _ (128 + n / 64 % 64) (by omega), u8z _ (128 + n % 64) (by omega)]
  · rw [if_neg h1, if_neg h2, if_neg h3]
    show [UInt8.ofNat (240 + n / 262144), UInt8.ofNat (128 + n / 4096 % 64), UInt8.ofNat (128 + n / 64 % 64), UInt8.ofNat (128 + n % 64)] = runeB n
    rw [runeB, Lib.encodeRune, Lib.encodeRuneZ_four (by omega) (by omega)]
    simp only [List.map_cons, List.map_nil]
    rw [u8z _ (240 + n / 262144) (by omega), u8z _ (128 + n / 4096 % 64) (by omega), u8z _ (128 + n / 64 % 64) (by omega), u8z _ (128 + n % 64) (by omega)]

/-- Four digits stand there. -/
theorem four_at {s : ByteArray} {q : Nat} (h : q + 4 ≤ s.size) {n : Nat} (hx : hexs 0 ((s.data.toList.drop q).take 4) = some n) : ∃ a b c d, s.data.toList.drop q = a :: b :: c :: d :: s.data.toList.drop (q + 4) ∧ u4 a b c d = some n := by
  have h0 := str_drop s q (by omega)
  have h1 := str_drop s (q + 1) (by omega)
  have h2 := str_drop s (q + 1 + 1) (by omega)
  have h3 := str_drop s (q + 1 + 1 + 1) (by omega)
  rw [h3] at h2
  rw [h2] at h1
  rw [h1] at h0
  refine ⟨_, _, _, _, h0, ?_⟩
  rw [h0] at hx
  rw [← hexs_u4]
  exact hx

/-- A character by its number. -/
theorem strU_one {s : ByteArray} {q : Nat} (h : q + 4 ≤ s.size) {n : Nat} (hx : hexs 0 ((s.data.toList.drop q).take 4) = some n) (hn : n < 55296 ∨ 57344 ≤ n) : strU (s.data.toList.drop q) = .more (runeB n) (s.data.toList.drop (q + 4)) := by
  obtain ⟨a, b, c, d, h1, h2⟩ := four_at h hx
  rw [h1]
  simp only [strU, h2]
  rw [if_pos hn]

/-- A pair. -/
theorem strU_two {s : ByteArray} {q : Nat} (h : q + 4 + 1 + 1 + 4 ≤ s.size) {n m : Nat} (hx : hexs 0 ((s.data.toList.drop q).take 4) = some n) (hn1 : 55296 ≤ n) (hn2 : n < 56320) (hu : s.data.toList.drop (q + 4) = 92 :: 117 :: s.data.toList.drop (q + 4 + 1 + 1))
    (hy : hexs 0 ((s.data.toList.drop (q + 4 + 1 + 1)).take 4) = some m) (hm1 : 56320 ≤ m) (hm2 : m < 57344) : strU (s.data.toList.drop q) = .more (runeB ((n - 55296) * 1024 + (m - 56320) + 65536)) (s.data.toList.drop (q + 4 + 1 + 1 + 4)) := by
  obtain ⟨a, b, c, d, h1, h2⟩ := four_at (show q + 4 ≤ s.size by omega) hx
  obtain ⟨a', b', c', d', h3, h4⟩ := four_at h hy
  rw [h1, hu, h3]
  simp only [strU, h2]
  rw [if_neg (by omega)]
  simp only [h4]
  rw [if_pos ⟨hn2, hm1, hm2⟩]

/-- unit, where four digits stand. -/
theorem unit_ok {b : Nat} {s : ByteArray} {q : Nat} {far : Bool} {w : World} (h : RdAt b s q far w) (hl : s.size ≤ 1000000) (hq : q + 4 ≤ s.size) {n : Nat} (hx : hexs 0 ((s.data.toList.drop q).take 4) = some n) :
    Calls Tryz.prog 44 #[.pointer (some ⟨b, 0, none⟩)] w fun e w' => e = .returned (.tuple #[.int .i64 n, .bool true]) ∧ n < 65536 ∧ RdAt b s (q + 4) far w' ∧ Fb1 b w w' := by
  refine (unit b s q far w h (by omega) hl).mono ?_
  rintro e w' ⟨q', h1, h2, h3, h4, h5⟩
  rcases h5 with ⟨n', hn, rfl, hx', rfl⟩ | ⟨hb, rfl⟩
  · rw [hx] at hx'
    injection hx' with hx'
    subst hx'
    exact ⟨rfl, hn, h3, h4⟩
  · rcases hb with hb | hb
    · rw [hx] at hb; cases hb
    · omega

/-- unit, where they do not. -/
theorem unit_no {b : Nat} {s : ByteArray} {q : Nat} {far : Bool} {w : World} (h : RdAt b s q far w) (hl : s.size ≤ 1000000) (hq : q ≤ s.size) (hx : hexs 0 ((s.data.toList.drop q).take 4) = none ∨ s.size < q + 4) :
    Calls Tryz.prog 44 #[.pointer (some ⟨b, 0, none⟩)] w fun e w' => e = .returned (.tuple #[.int .i64 0, .bool false]) ∧ ∃ q', q' ≤ s.size ∧ RdAt b s q' far w' ∧ Fb1 b w w' := by
  refine (unit b s q far w h hq hl).mono ?_
  rintro e w' ⟨q', h1, h2, h3, h4, h5⟩
  rcases h5 with ⟨n', hn, rfl, hx', rfl⟩ | ⟨hb, rfl⟩
  · rcases hx with hx | hx
    · rw [hx] at hx'; cases hx'
    · omega
  · exact ⟨rfl, q', h2, h3, h4⟩

theorem unit_cases (s : ByteArray) (q : Nat) : (∃ n, q + 4 ≤ s.size ∧ hexs 0 ((s.data.toList.drop q).take 4) = some n) ∨ (hexs 0 ((s.data.toList.drop q).take 4) = none ∨ s.size < q + 4) := by
  cases h : hexs 0 ((s.data.toList.drop q).take 4) with
  | none => exact .inr (.inl rfl)
  | some n =>
    by_cases hq : q + 4 ≤ s.size
    · exact .inl ⟨n, hq, rfl⟩
    · exact .inr (.inr (by omega))

theorem bytes_len (t : ByteArray) : t.data.toList.length = t.size := rfl

theorem enc_size (n : Nat) (h : n < 55296 ∨ (57344 ≤ n ∧ n < 1114112)) : (Utf8.encode (n : Int)).size ≤ 4 := by
  have := congrArg List.length (enc_rune n h)
  have h4 := runeB_length n
  rw [bytes_len] at this
  omega

/-- What text gives where something is met of which nothing is said. -/
theorem text_far {b : Nat} {s : ByteArray} {E : StrEnd} {w w' : World} {q : Nat} {t : ByteArray} (hq : q ≤ s.size) (hr : RdAt b s q true w') (hf : Fb1 b w w') : TextPost b s E w (.returned (.tuple #[.string t, .bool false])) w' :=
  ⟨t, false, true, q, rfl, hq, hr, hf, fun _ => rfl, fun h => by cases h⟩

/-- What a text of two bytes is. -/
theorem two_bytes {s : ByteArray} {p : Nat} (h : p + 1 < s.size) : (s.extract p (p + 2)).toList = [s[p]'(by omega), s[p + 1]'h] := by
  rw [ByteArray.toList_eq, Lib.extract_data]
  have h0 := str_drop s p (by omega)
  have h1 := str_drop s (p + 1) h
  rw [h1] at h0
  rw [h0]
  have e : p + 2 - p = 2 := by omega
  rw [e]
  rfl

/-- A character's bytes are no quote and no backslash. -/
theorem rune_plain {s : ByteArray} {q k : Nat} {c : UInt8} (hlt : q < s.size) (hc : s[q]'hlt = c) (h1 : c ≠ 34) (h2 : c ≠ 92) (hk : q + k ≤ s.size) (h : ∀ j (hj : j < (s.extract q s.size).size), 1 ≤ j → j < k → 128 ≤ ((s.extract q s.size)[j]'hj).toNat) : ∀ x ∈ (s.data.toList.drop q).take k, x ≠ 34 ∧ x ≠ 92 := by
  intro x hx
  obtain ⟨j, hj, rfl⟩ := List.getElem_of_mem hx
  have hjk : j < k := by rw [List.length_take] at hj; omega
  have hjs : q + j < s.size := by omega
  have e : ((s.data.toList.drop q).take k)[j]'hj = s[q + j]'hjs := by
    rw [List.getElem_take, List.getElem_drop]
    rfl
  rw [e]
  by_cases hj0 : j = 0
  · subst hj0
    simp only [Nat.add_zero, hc]
    exact ⟨h1, h2⟩
  · have hj2 : j < (s.extract q s.size).size := by simp [ByteArray.size_extract]; omega
    have := h j hj2 (by omega) hjk
    have e2 : (s.extract q s.size)[j]'hj2 = s[q + j]'hjs := by
      simp only [ByteArray.getElem_extract]
    rw [e2] at this
    constructor
    · rintro h34; rw [h34] at this; revert this; decide
    · rintro h34; rw [h34] at this; revert this; decide

end Go.Proofs.YtdabllkphibfmaaGreatDoor
