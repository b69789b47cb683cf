/- FnExtPartsJoined: at every two values and every mode the law answers true, and the values read as they did: the tied card. Its conditions: the listed package-level variables lie as the program's text lays them (tied). -/
import Derived.Test.YtpkfdbhpmhahaaaGreatDoorGb
import Derived.Test.YtpkfdbhpmhahaaaGreatDoorTre
import Derived.Test.YtpkfdbhpmhahaaaGreatDoorRows
import Derived.ProofKit
import Derived.OpenShut
import Derived.ShutString
import Derived.ChangeOld
import Derived.ChangeSame
import Derived.ChangeVars
import Derived.LaidLaws
import Derived.LaidHandle
import Derived.Stop.LaidErr
import Derived.Lib.LaidU8
import Derived.Lay
import Derived.ChangeSlices
import Derived.DataReads
import Derived.Test.YtpkfdbhpmhahaaaGreatDoorCards
import Derived.Test.YtpkfdbhpmhahaaaGreatDoorTie
import Derived.Test.YtpkfdbhpmhahaaaGreatDoorLwc
import Derived.SevenTiedAt
/- What the row's listed tables give a walk: all that the writer reads. -/
namespace Go.Proofs.YtpkfdbhpmhahaaaGreatDoor
open Go Go.ChangeShapes Go.WideShapes Go.ChangeAt Go.RowKit
set_option linter.unusedSimpArgs false
set_option linter.unusedVariables false

theorem own : ownKnob Tryz.prog.godebug = none := by kernel_rfl
theorem laidOut : laidOutB Tryz.prog = true := by kernel_rfl
theorem gHtml : Tryz.prog.globalNamed "pub-gunnysack/pub/bson.htmlSafeSet" = some 2 := by kernel_rfl
theorem gSafe : Tryz.prog.globalNamed "pub-gunnysack/pub/bson.safeSet" = some 3 := by kernel_rfl
theorem gHtmlType : (Tryz.prog.globals[2]?).map (·.type) = some 106 := by kernel_rfl
theorem gSafeType : (Tryz.prog.globals[3]?).map (·.type) = some 106 := by kernel_rfl
theorem cells4 : Tryz.prog.cellsOf 4 = 1 := by kernel_rfl

def boolData (f : Nat → Bool) : DataW Unit := .agg ((List.range 128).map fun i => .lit (.bool (f i)))
theorem html_data : Rows.laid_pub_gunnysack_pub_bson_htmlSafeSet = boolData htmlB := by kernel_rfl
theorem safe_data : Rows.laid_pub_gunnysack_pub_bson_safeSet = boolData safeB := by kernel_rfl

theorem bool_of_trod {enc : TypeId × Value → Unit} {W : World} {fuel : Nat} {cs : List Value} {b : Bool} {p : List MemPlace} (h : DataW.trod enc Tryz.prog W 0 (fun _ => true) false fuel 4 cs = some (.lit (.bool b), p)) : cs = [.bool b] := by
  obtain ⟨b', h1, h2⟩ := DataW.trod_bool Tryz.underlying4 h
  simp only [Prod.mk.injEq, DataW.lit.injEq, Lit.bool.injEq] at h2
  rw [h1, h2.1]

theorem bools_of_reads {W : World} {n : String} {g : Nat} {f : Nat → Bool} (hg : Tryz.prog.globalNamed n = some g) (ht : (Tryz.prog.globals[g]?).map (·.type) = some 106) (h : Lib.VarReads Tryz.prog W n (boolData f)) : ∀ b : Nat, b < 128 → W.cell? ⟨g, b, none⟩ = some (.bool (f b)) := by
  intro b hb
  obtain ⟨g', t, cs, fuel, p, hg', hty, hvar, hd⟩ := h
  obtain rfl := Option.some.inj (hg.symm.trans hg')
  obtain rfl := Option.some.inj (ht.symm.trans hty)
  obtain ⟨fuel', d, q, hdi, he⟩ := Lib.array_elem Tryz.underlying106 hd b hb
  simp only [List.getElem?_map, List.getElem?_range hb, Option.map_some, Option.some.injEq] at hdi
  subst hdi
  have hcs := bool_of_trod he
  rw [cells4, Nat.mul_one] at hcs
  have h0 := congrArg (·[0]?) hcs
  simp only [List.getElem?_take, List.getElem?_drop, Nat.add_zero, List.getElem?_cons_zero] at h0
  rw [if_pos (by decide)] at h0
  have := World.var?_cell hg' hvar b
  rw [this, ← Array.getElem?_toList, h0]

theorem gPow : Tryz.prog.globalNamed "internal/strconv.pow10Tab" = some 11 := by kernel_rfl
theorem gPowType : (Tryz.prog.globals[11]?).map (·.type) = some 233 := by kernel_rfl
theorem gLc : Tryz.prog.globalNamed "internal/strconv.leftcheats" = some 12 := by kernel_rfl
theorem gUp : (Tryz.prog.globals[7]?).map (·.type) = some 183 := by kernel_rfl
theorem cells22 : Tryz.prog.cellsOf 22 = 1 := by kernel_rfl
theorem cells232 : Tryz.prog.cellsOf 232 = 2 := by kernel_rfl

/-- A struct of two cells, by its fields. -/
theorem trod_two {W : World} {fuel : Nat} {t : TypeId} {cs : List Value} {f0 f1 : Field} {enc : TypeId × Value → Unit} {d0 d1 : DataW Unit} {q : List MemPlace} (ht : Tryz.prog.underlying t = some (.struct #[f0, f1])) (ho0 : f0.offset = 0) (ho1 : f1.offset = 1) (hc0 : Tryz.prog.cellsOf f0.type = 1) (hc1 : Tryz.prog.cellsOf f1.type = 1)
    (h : DataW.trod enc Tryz.prog W 0 (fun _ => true) false fuel t cs = some (.agg [d0, d1], q)) :
    ∃ n p0 p1, DataW.trod enc Tryz.prog W 0 (fun _ => true) false n f0.type (cs.take 1) = some (d0, p0) ∧ DataW.trod enc Tryz.prog W 0 (fun _ => true) false n f1.type ((cs.drop 1).take 1) = some (d1, p1) := by
  obtain ⟨xs, n, rfl, hx, hl, hxl, hall⟩ := DataW.trod_struct ht h
  have hx1 : xs.map (·.1) = [d0, d1] := by
    have := congrArg Prod.fst hx
    simpa using this.symm
  match xs, hx1, hall with
  | [e0, e1], hx1, hall =>
    simp only [List.map_cons, List.map_nil, List.cons.injEq, and_true] at hx1
    obtain ⟨h0, h1⟩ := hx1
    have a0 := hall 0 f0 rfl
    have a1 := hall 1 f1 rfl
    rw [ho0, hc0, List.drop_zero] at a0
    rw [ho1, hc1] at a1
    exact ⟨n, e0.2, e1.2, a0.trans (by simp [← h0]), a1.trans (by simp [← h1])⟩

theorem int_trod {W : World} {fuel : Nat} {t : TypeId} {k : IntKind} {cs : List Value} {enc : TypeId × Value → Unit} {z : Int} {q : List MemPlace} (ht : Tryz.prog.underlying t = some (.int k)) (h : DataW.trod enc Tryz.prog W 0 (fun _ => true) false fuel t cs = some (.lit (.int k z), q)) : cs = [.int k z] ∧ (Lit.int k z).wf = true := by
  obtain ⟨n, h1, h2, h3⟩ := DataW.trod_int ht h
  simp only [Prod.mk.injEq, DataW.lit.injEq, Lit.int.injEq, true_and] at h2
  obtain ⟨rfl, _⟩ := h2
  exact ⟨h1, h3⟩

theorem pow_data : Rows.laid_internal_strconv_pow10Tab = DataW.agg (Go.Pinned.pow10Rows.map fun x => DataW.agg [.lit (.int .u64 x.1), .lit (.int .u64 x.2)]) := rfl
theorem pow_len : Go.Pinned.pow10Rows.length = 696 := by kernel_rfl

theorem p10_of_reads {W : World} (h : Lib.VarReads Tryz.prog W "internal/strconv.pow10Tab" Rows.laid_internal_strconv_pow10Tab) : ∀ i, i < 696 → (W.cell? ⟨11, i * 2, none⟩ = some (.int .u64 (p10h i)) ∧ W.cell? ⟨11, i * 2 + 1, none⟩ = some (.int .u64 (p10l i))) ∧ (0 ≤ p10h i ∧ p10h i < 18446744073709551616) ∧ (0 ≤ p10l i ∧ p10l i < 18446744073709551616) := by
  intro i hi
  rw [pow_data] at h
  obtain ⟨g, t, cs, fuel, p, hg, hty, hvar, hd⟩ := h
  obtain rfl := Option.some.inj (gPow.symm.trans hg)
  obtain rfl := Option.some.inj (gPowType.symm.trans hty)
  obtain ⟨fuel', d, q, hdi, he⟩ := Lib.array_elem Tryz.underlying233 hd i hi
  rw [List.getElem?_map] at hdi
  obtain ⟨x, hx, rfl⟩ := Option.map_eq_some_iff.1 hdi
  have eh : p10h i = x.1 := by unfold p10h; rw [List.getD_eq_getElem?_getD, hx]; rfl
  have el : p10l i = x.2 := by unfold p10l; rw [List.getD_eq_getElem?_getD, hx]; rfl
  obtain ⟨n, p0, p1, a0, a1⟩ := trod_two Tryz.underlying232 rfl rfl cells22 cells22 he
  obtain ⟨b0, w0⟩ := int_trod Tryz.underlying22 a0
  obtain ⟨b1, w1⟩ := int_trod Tryz.underlying22 a1
  rw [cells232] at b0 b1
  have c0 := congrArg (·[0]?) b0
  have c1 := congrArg (·[0]?) b1
  simp only [List.getElem?_take, List.getElem?_drop, List.getElem?_cons_zero, Nat.add_zero] at c0 c1
  rw [if_pos (by decide), if_pos (by decide)] at c0 c1
  rw [eh, el]
  refine ⟨⟨?_, ?_⟩, ?_, ?_⟩
  · have := World.var?_cell hg hvar (i * 2)
    rw [this, ← Array.getElem?_toList, c0]
  · have := World.var?_cell hg hvar (i * 2 + 1)
    rw [this, ← Array.getElem?_toList, c1]
  · simp [Lit.wf, IntKind.min, IntKind.max, IntKind.signed, IntKind.bits] at w0
    omega
  · simp [Lit.wf, IntKind.min, IntKind.max, IntKind.signed, IntKind.bits] at w1
    omega

theorem up_data : (Rows.laid_internal_strconv_uint64pow10 : DataW Unit) = Lib.tabData .u64 Lib.pow10Tab := by kernel_rfl
theorem up_of_reads {W : World} (h : Lib.VarReads Tryz.prog W "internal/strconv.uint64pow10" Rows.laid_internal_strconv_uint64pow10) : Lib.TabIs Tryz.prog W "internal/strconv.uint64pow10" .u64 Lib.pow10Tab := by
  rw [up_data] at h
  obtain ⟨g, t, cs, fuel, p, hg, hty, hvar, hd⟩ := h
  obtain rfl := Option.some.inj (gPow10.symm.trans hg)
  obtain rfl := Option.some.inj (gUp.symm.trans hty)
  unfold Lib.TabIs
  rw [hvar, ← Lib.cells_of_tab Tryz.underlying183 Tryz.underlying22 cells22 (by kernel_rfl) hd]

/-- All that the writer reads. -/
theorem tabs_of_laid {W : World} {l : List (String × DataW Unit)} (h : laidMet Tryz.prog l W) (h1 : ("pub-gunnysack/pub/bson.htmlSafeSet", Rows.laid_pub_gunnysack_pub_bson_htmlSafeSet) ∈ l) (h2 : ("pub-gunnysack/pub/bson.safeSet", Rows.laid_pub_gunnysack_pub_bson_safeSet) ∈ l)
    (h3 : ("unicode/utf8.first", Rows.laid_unicode_utf8_first) ∈ l) (h4 : ("unicode/utf8.acceptRanges", Rows.laid_unicode_utf8_acceptRanges) ∈ l) (h5 : ("internal/strconv.uint64pow10", Rows.laid_internal_strconv_uint64pow10) ∈ l)
    (h6 : ("internal/strconv.pow10Tab", Rows.laid_internal_strconv_pow10Tab) ∈ l) (h7 : ("internal/strconv.leftcheats", Rows.laid_internal_strconv_leftcheats) ∈ l) : Tabs W := by
  have r1 := Lib.laidMet.reads h h1
  have r2 := Lib.laidMet.reads h h2
  have r3 := Lib.laidMet.reads h h3
  have r4 := Lib.laidMet.reads h h4
  rw [html_data] at r1
  rw [safe_data] at r2
  have e3 : Rows.laid_unicode_utf8_first = Lib.firstData := by kernel_rfl
  have e4 : (Rows.laid_unicode_utf8_acceptRanges : DataW Unit) = Lib.acceptData := by kernel_rfl
  rw [e3] at r3
  rw [e4] at r4
  have hp := p10_of_reads (Lib.laidMet.reads h h6)
  have hbig : 12 < W.heap.size := by
    obtain ⟨g, t, cs, fuel, p, hg, hty, hvar, hd⟩ := Lib.laidMet.reads h h7
    obtain rfl := Option.some.inj (gLc.symm.trans hg)
    unfold World.var? at hvar
    rw [hg, Option.bind_some] at hvar
    cases hh : W.heap[12]? with
    | none => rw [hh] at hvar; cases hvar
    | some o => exact (Array.getElem?_eq_some_iff.1 hh).1
  exact ⟨bools_of_reads gHtml gHtmlType r1, bools_of_reads gSafe gSafeType r2, utf8Tabs_of_reads (ρ := Tryz.lays197_ren) { Tryz.lays197 with } ⟨by kernel_rfl, by kernel_rfl, by kernel_rfl, by kernel_rfl, by kernel_rfl, by kernel_rfl, by kernel_rfl⟩ r3 r4,
    up_of_reads (Lib.laidMet.reads h h5), fun i hi => (hp i hi).1, fun i hi => (hp i hi).2, hbig⟩

end Go.Proofs.YtpkfdbhpmhahaaaGreatDoor

/- A value that came in stands as a tree. -/
namespace Go.Proofs.YtpkfdbhpmhahaaaGreatDoor
open Go Go.ChangeShapes Go.WideShapes Go.ChangeAt Go.RowKit
set_option linter.unusedSimpArgs false
set_option linter.unusedVariables false

section
variable {H : Type} {enc : TypeId × Value → H} {W : World}

theorem cells_range {b o n : Nat} {sp : Option (Nat × Nat)} {cs : List Value} (h : W.cells? 0 ⟨b, o, none⟩ n = some cs) : W.rangeAt b o cs := fun j v hv => by
  obtain ⟨_, hl, hc⟩ := World.cells?_some h
  have hj := (List.getElem?_eq_some_iff.1 hv).1
  have := hc j (by omega)
  rw [Addr.add_mid] at this
  rw [this, hv]

theorem one_field {cs : List Value} {i : Nat} {v : Value} (h : (cs.drop i).take 1 = [v]) : cs[i]? = some v := by
  have := congrArg (·[0]?) h
  simp only [List.getElem?_take, List.getElem?_drop, Nat.add_zero, List.getElem?_cons_zero] at this
  rw [if_pos (by decide)] at this
  exact this
theorem eight {cs : List Value} {a b c d e f g h : Value} (hl : cs.length = 8) (h0 : cs[0]? = some a) (h1 : cs[1]? = some b) (h2 : cs[2]? = some c) (h3 : cs[3]? = some d) (h4 : cs[4]? = some e) (h5 : cs[5]? = some f) (h6 : cs[6]? = some g) (h7 : cs[7]? = some h) : cs = [a, b, c, d, e, f, g, h] := by
  match cs, hl with
  | [x0, x1, x2, x3, x4, x5, x6, x7], _ =>
    simp at h0 h1 h2 h3 h4 h5 h6 h7
    simp [h0, h1, h2, h3, h4, h5, h6, h7]

/-- Bytes that came in. -/
theorem bytes_of_trod {fuel : Nat} {cs : List Value} {x : DataW H × List MemPlace} (h : DataW.trod enc Tryz.prog W 0 (fun _ => true) true fuel 23 cs = some x) :
    ∃ (ba : Option Addr) (bn bc g o : Nat) (bs : List UInt8), cs = [.slice ba bn bc] ∧ bn = bs.length ∧ bn ≤ 9223372036854775807 ∧ bn ≤ bc ∧ (bs ≠ [] → ba = some ⟨g, o, none⟩ ∧ g < W.heap.size ∧ W.rangeAt g o (Lib.byteCells bs)) ∧ (ba = none → bc = 0) := by
  rcases open_ints Tryz.underlying23 Tryz.underlying5 (by kernel_rfl) h with ⟨rfl, _⟩ | ⟨a, l, c, zs, rfl, _, hl, hm, hz, _, hcell, hwf⟩
  · exact ⟨none, 0, 0, 0, 0, [], rfl, rfl, by decide, by decide, fun e => absurd rfl e, fun _ => rfl⟩
  · have hzl : zs.length = c := by simpa using hz
    refine ⟨some a, l, c, a.block, a.off, (zs.take l).map (fun z => UInt8.ofNat z.toNat), rfl, by rw [List.length_map, List.length_take]; omega, by unfold maxLen at hm; omega, hl, fun hne => ?_, fun e => by cases e⟩
    have hl0 : 0 < l := by
      rcases Nat.eq_zero_or_pos l with rfl | h0
      · simp at hne
      · exact h0
    have h0 := hcell 0 (by omega)
    have e0 : a.add 0 = a := by unfold Addr.add; split <;> simp_all
    rw [e0] at h0
    have hsp : a.spot = none := by
      unfold World.cell? at h0
      split at h0
      · by_cases hs : a.spot.isSome = true
        · rw [if_pos hs] at h0; cases h0
        · simpa using hs
      · cases h0
    have ea : a = ⟨a.block, a.off, none⟩ := by cases a; simp at hsp; subst hsp; rfl
    refine ⟨congrArg some ea, World.block_lt_of_cell? W a h0, fun j v hv => ?_⟩
    unfold Lib.byteCells at hv
    rw [List.map_map, List.getElem?_map] at hv
    obtain ⟨z, hz1, rfl⟩ := Option.map_eq_some_iff.1 hv
    have hj := (List.getElem?_eq_some_iff.1 hz1).1
    rw [List.length_take] at hj
    have h1 := hcell j (by omega)
    rw [ea, Addr.add_mid] at h1
    rw [h1]
    rw [List.getElem?_take, if_pos (by omega)] at hz1
    rw [List.getD_eq_getElem?_getD, hz1]
    have hw := hwf z (List.mem_of_getElem? hz1)
    simp [Lit.wf, IntKind.min, IntKind.max, IntKind.signed, IntKind.bits] at hw
    simp only [Option.getD_some, Function.comp]
    congr 2
    have : (UInt8.ofNat z.toNat).toNat = z.toNat := by
      rw [UInt8.toNat_ofNat']
      exact Nat.mod_eq_of_lt (by omega)
    rw [this]
    omega

theorem i64_wf {n : Int} (h : (Lit.int .i64 n).wf = true) : I64 n := by
  simp [Lit.wf, IntKind.min, IntKind.max, IntKind.signed, IntKind.bits] at h
  exact ⟨by omega, by omega⟩
theorem u64_wf {n : Int} (h : (Lit.int .u64 n).wf = true) : U64 n := by
  simp [Lit.wf, IntKind.min, IntKind.max, IntKind.signed, IntKind.bits] at h
  unfold U64
  omega

theorem c3 : Tryz.prog.cellsOf 3 = 1 := by kernel_rfl
theorem c9 : Tryz.prog.cellsOf 9 = 1 := by kernel_rfl
theorem c2 : Tryz.prog.cellsOf 2 = 1 := by kernel_rfl
theorem c22 : Tryz.prog.cellsOf 22 = 1 := by kernel_rfl
theorem c23 : Tryz.prog.cellsOf 23 = 1 := by kernel_rfl
theorem c24 : Tryz.prog.cellsOf 24 = 1 := by kernel_rfl
theorem c26 : Tryz.prog.cellsOf 26 = 8 := by kernel_rfl
theorem c33 : Tryz.prog.cellsOf 33 = 9 := by kernel_rfl

/-- The struct's fields. -/
theorem val_of_trod {fuel : Nat} {cs : List Value} {x : DataW H × List MemPlace} (h : DataW.trod enc Tryz.prog W 0 (fun _ => true) true fuel 26 cs = some x) :
    ∃ (K : Int) (t m : ByteArray) (n b h : Int) (ba : Option Addr) (bn bc g o : Nat) (bs : List UInt8) (kv : Value) (f2 : Nat) (y : DataW H × List MemPlace), f2 < fuel ∧ cs = [.int .i64 K, .string t, .string m, .int .i64 n, .int .u64 b, .int .u64 h, .slice ba bn bc, kv] ∧ I64 K ∧ I64 n ∧ U64 b ∧ U64 h ∧ t.size ≤ 9223372036854775807 ∧ m.size ≤ 9223372036854775807 ∧
      (bn = bs.length ∧ bn ≤ 9223372036854775807 ∧ bn ≤ bc ∧ (bs ≠ [] → ba = some ⟨g, o, none⟩ ∧ g < W.heap.size ∧ W.rangeAt g o (Lib.byteCells bs)) ∧ (ba = none → bc = 0)) ∧
      DataW.trod enc Tryz.prog W 0 (fun _ => true) true f2 24 [kv] = some y := by
  obtain ⟨xs, f2, rfl, hx, hl, hxl, hall⟩ := DataW.trod_struct Tryz.underlying26 h
  rw [c26] at hl
  have hx8 : xs.length = 8 := hxl
  have get : ∀ i, i < 8 → ∃ y, xs[i]? = some y := fun i hi => ⟨_, List.getElem?_eq_getElem (by omega)⟩
  obtain ⟨y0, e0⟩ := get 0 (by decide)
  obtain ⟨y1, e1⟩ := get 1 (by decide)
  obtain ⟨y2, e2⟩ := get 2 (by decide)
  obtain ⟨y3, e3⟩ := get 3 (by decide)
  obtain ⟨y4, e4⟩ := get 4 (by decide)
  obtain ⟨y5, e5⟩ := get 5 (by decide)
  obtain ⟨y6, e6⟩ := get 6 (by decide)
  obtain ⟨y7, e7⟩ := get 7 (by decide)
  have a0 : DataW.trod enc Tryz.prog W 0 (fun _ => true) true f2 3 ((cs.drop 0).take (Tryz.prog.cellsOf 3)) = xs[0]? := hall 0 _ rfl
  have a1 : DataW.trod enc Tryz.prog W 0 (fun _ => true) true f2 9 ((cs.drop 1).take (Tryz.prog.cellsOf 9)) = xs[1]? := hall 1 _ rfl
  have a2 : DataW.trod enc Tryz.prog W 0 (fun _ => true) true f2 9 ((cs.drop 2).take (Tryz.prog.cellsOf 9)) = xs[2]? := hall 2 _ rfl
  have a3 : DataW.trod enc Tryz.prog W 0 (fun _ => true) true f2 2 ((cs.drop 3).take (Tryz.prog.cellsOf 2)) = xs[3]? := hall 3 _ rfl
  have a4 : DataW.trod enc Tryz.prog W 0 (fun _ => true) true f2 22 ((cs.drop 4).take (Tryz.prog.cellsOf 22)) = xs[4]? := hall 4 _ rfl
  have a5 : DataW.trod enc Tryz.prog W 0 (fun _ => true) true f2 22 ((cs.drop 5).take (Tryz.prog.cellsOf 22)) = xs[5]? := hall 5 _ rfl
  have a6 : DataW.trod enc Tryz.prog W 0 (fun _ => true) true f2 23 ((cs.drop 6).take (Tryz.prog.cellsOf 23)) = xs[6]? := hall 6 _ rfl
  have a7 : DataW.trod enc Tryz.prog W 0 (fun _ => true) true f2 24 ((cs.drop 7).take (Tryz.prog.cellsOf 24)) = xs[7]? := hall 7 _ rfl
  rw [c3, e0] at a0
  rw [c9, e1] at a1
  rw [c9, e2] at a2
  rw [c2, e3] at a3
  rw [c22, e4] at a4
  rw [c22, e5] at a5
  rw [c23, e6] at a6
  rw [c24, e7] at a7
  obtain ⟨K, b0, _, w0⟩ := DataW.trod_int Tryz.underlying3 a0
  obtain ⟨t, b1, _, w1⟩ := DataW.trod_string Tryz.underlying9 a1
  obtain ⟨m, b2, _, w2⟩ := DataW.trod_string Tryz.underlying9 a2
  obtain ⟨n, b3, _, w3⟩ := DataW.trod_int Tryz.underlying2 a3
  obtain ⟨b, b4, _, w4⟩ := DataW.trod_int Tryz.underlying22 a4
  obtain ⟨h', b5, _, w5⟩ := DataW.trod_int Tryz.underlying22 a5
  obtain ⟨ba, bn, bc, g, o, bs, b6, w6⟩ := bytes_of_trod a6
  have hlt7 : 7 < cs.length := by omega
  have b7 : (cs.drop 7).take 1 = [cs[7]] := by
    rw [List.drop_eq_getElem_cons hlt7]
    rfl
  rw [b7] at a7
  have hcs := eight hl (one_field b0) (one_field b1) (one_field b2) (one_field b3) (one_field b4) (one_field b5) (one_field b6) (one_field b7)
  exact ⟨K, t, m, n, b, h', ba, bn, bc, g, o, bs, cs[7], f2, y7, by omega, hcs, i64_wf w0, i64_wf w3, u64_wf w4, u64_wf w5, w1, w2, w6, a7⟩

/-- An element: its name, its value. -/
theorem elem_of_trod {fuel : Nat} {cs : List Value} {x : DataW H × List MemPlace} (h : DataW.trod enc Tryz.prog W 0 (fun _ => true) true fuel 33 cs = some x) :
    ∃ (nm : ByteArray) (cv : List Value) (f2 : Nat) (y : DataW H × List MemPlace), f2 < fuel ∧ cs = .string nm :: cv ∧ nm.size ≤ 9223372036854775807 ∧ cv.length = 8 ∧ DataW.trod enc Tryz.prog W 0 (fun _ => true) true f2 26 cv = some y := by
  obtain ⟨xs, f2, rfl, hx, hl, hxl, hall⟩ := DataW.trod_struct Tryz.underlying33 h
  rw [c33] at hl
  have hx2 : xs.length = 2 := hxl
  obtain ⟨y0, e0⟩ : ∃ y, xs[0]? = some y := ⟨_, List.getElem?_eq_getElem (by omega)⟩
  obtain ⟨y1, e1⟩ : ∃ y, xs[1]? = some y := ⟨_, List.getElem?_eq_getElem (by omega)⟩
  have a0 : DataW.trod enc Tryz.prog W 0 (fun _ => true) true f2 9 ((cs.drop 0).take (Tryz.prog.cellsOf 9)) = xs[0]? := hall 0 _ rfl
  have a1 : DataW.trod enc Tryz.prog W 0 (fun _ => true) true f2 26 ((cs.drop 1).take (Tryz.prog.cellsOf 26)) = xs[1]? := hall 1 _ rfl
  rw [c9, e0] at a0
  rw [c26, e1] at a1
  obtain ⟨nm, b0, _, w0⟩ := DataW.trod_string Tryz.underlying9 a0
  cases cs with
  | nil => simp at hl
  | cons v cv =>
    have h0 := one_field b0
    simp at h0
    subst h0
    have hl8 : cv.length = 8 := by simpa using hl
    rw [List.drop_one, List.tail_cons, List.take_of_length_le (by omega)] at a1
    exact ⟨nm, cv, f2, y1, by omega, rfl, w0, hl8, a1⟩

theorem tree_of_trod : ∀ (fuel : Nat) (cs : List Value) (x : DataW H × List MemPlace), DataW.trod enc Tryz.prog W 0 (fun _ => true) true fuel 26 cs = some x → ∃ t : T, VAt W W.heap.size t (.agg cs.toArray) := by
  intro fuel
  induction fuel using Nat.strongRecOn with
  | ind fuel ih =>
    intro cs x h
    obtain ⟨K, t, m, n, b, hg, ba, bn, bc, g, o, bs, kv, f2, y, hf2, rfl, wK, wn, wb, wh, wt, wm, ⟨hb1, hb2, hb3, hb4, hb5⟩, hk⟩ := val_of_trod h
    rcases DataW.trod_slice Tryz.underlying24 hk with ⟨e, _⟩ | ⟨a, len, cap, elems, rest, f3, rfl, e, _, _, hlc, hm, hlen, hel, _, _⟩
    · obtain rfl : kv = .slice none 0 0 := by simpa using e
      exact ⟨.mk K t m n b hg bs [], .mk K t m n b hg bs [] ba none bn bc 0 0 g o 0 0 (fun _ => #[]) wK wn wb wh wt wm hb1 hb2 hb3 hb4 hb5 rfl (by decide) (by decide) (fun e => absurd rfl e) (fun i hi => by simp at hi) (fun i hi => by simp at hi) (fun i hi => by simp at hi)⟩
    · obtain rfl : kv = .slice (some a) len cap := by simpa using e
      have each : ∀ i, i < len → ∃ (nm : ByteArray) (cv : List Value) (tt : T), W.cells? 0 (a.add (i * 9)) 9 = some (.string nm :: cv) ∧ nm.size ≤ 9223372036854775807 ∧ VAt W W.heap.size tt (.agg cv.toArray) := by
        intro i hi
        obtain ⟨z, hz⟩ : ∃ z, elems[i]? = some z := ⟨_, List.getElem?_eq_getElem (by omega)⟩
        have h1 := hel i hi
        rw [hz, c33] at h1
        obtain ⟨cs1, hc1, hd1⟩ := Option.bind_eq_some_iff.1 h1
        obtain ⟨nm, cv, f4, y4, hf4, rfl, hnm, _, hd2⟩ := elem_of_trod hd1
        obtain ⟨tt, htt⟩ := ih f4 (by omega) cv y4 hd2
        exact ⟨nm, cv, tt, hc1, hnm, htt⟩
      let nmF : Nat → ByteArray := fun i => if hi : i < len then (each i hi).choose else ⟨#[]⟩
      let cvF : Nat → List Value := fun i => if hi : i < len then (each i hi).choose_spec.choose else []
      let tF : Nat → T := fun i => if hi : i < len then (each i hi).choose_spec.choose_spec.choose else .mk 0 ⟨#[]⟩ ⟨#[]⟩ 0 0 0 [] []
      have spec : ∀ i, i < len → W.cells? 0 (a.add (i * 9)) 9 = some (.string (nmF i) :: cvF i) ∧ (nmF i).size ≤ 9223372036854775807 ∧ VAt W W.heap.size (tF i) (.agg (cvF i).toArray) := by
        intro i hi
        have := (each i hi).choose_spec.choose_spec.choose_spec
        simp only [nmF, cvF, tF, dif_pos hi]
        exact this
      clear_value nmF cvF tF
      have sp : 0 < len → a = ⟨a.block, a.off, none⟩ ∧ a.block < W.heap.size := by
        intro h0
        have h1 := (spec 0 h0).1
        have e0 : a.add (0 * 9) = a := by unfold Addr.add; split <;> simp_all
        rw [e0] at h1
        have hc := (World.cells?_some h1).2.2 0 (by decide)
        have e1 : a.add 0 = a := by unfold Addr.add; split <;> simp_all
        rw [e1] at hc
        have hc' : W.cell? a = some (.string (nmF 0)) := hc
        have hsp : a.spot = none := by
          unfold World.cell? at hc'
          split at hc'
          · by_cases hs : a.spot.isSome = true
            · rw [if_pos hs] at hc'; cases hc'
            · simpa using hs
          · cases hc'
        exact ⟨by cases a; simp at hsp; subst hsp; rfl, World.block_lt_of_cell? W a hc'⟩
      refine ⟨.mk K t m n b hg bs ((List.range len).map fun i => (nmF i, tF i)), .mk K t m n b hg bs _ ba (some a) bn bc len cap g o a.block a.off (fun i => (cvF i).toArray) wK wn wb wh wt wm hb1 hb2 hb3 hb4 hb5 (by simp) (by unfold maxLen at hm; omega) hlc (fun hne => ?_) (fun i hi => ?_) (fun i hi => ?_) (fun i hi => ?_)⟩
      · have h0 : 0 < len := by
          rcases Nat.eq_zero_or_pos len with h0 | h0
          · subst h0; simp at hne
          · exact h0
        exact ⟨congrArg some (sp h0).1, (sp h0).2⟩
      · have hi' : i < len := by simpa using hi
        have h1 := (spec i hi').1
        rw [(sp (by omega)).1, Addr.add_mid] at h1
        simp only [List.getElem_map, List.getElem_range]
        exact cells_range (sp := none) h1
      · have hi' : i < len := by simpa using hi
        simp only [List.getElem_map, List.getElem_range]
        exact (spec i hi').2.1
      · have hi' : i < len := by simpa using hi
        simp only [List.getElem_map, List.getElem_range]
        exact (spec i hi').2.2
end

end Go.Proofs.YtpkfdbhpmhahaaaGreatDoor

namespace Go.Proofs.YtpkfdbhpmhahaaaGreatDoor
open Go Go.ChangeShapes Go.WideShapes Go.ChangeAt Go.RowKit
open Go.ChangeMaps (open_string shut_string)

set_option maxRecDepth 100000 in
theorem joinedLifted (os : Os) (started : os.Started) (H : Type) (enc : TypeId × Value → H) :
    ReturnsInHanded {} Tryz.checked os 3 .any (fun w args => (Rows.fnExtPartsJoinedSpec.pre enc Tryz.prog Tryz.f3 [] false w args ∧ laidMetH Tryz.prog Rows.fnExtPartsJoinedRow.laid w) ∧ sizedMet enc Tryz.prog Tryz.f3 (OpenSpec.ofChange Rows.fnExtPartsJoinedSpec) false w args)
      (Rows.fnExtPartsJoinedSpec.post enc Tryz.prog Tryz.f3 false true false false) := by
  refine returnsInHanded_of_change_and (C := Tryz.checked) (X := fun w _ => laidMetH Tryz.prog Rows.fnExtPartsJoinedRow.laid w) (fun _ _ _ hh h => h.of_heap hh) own started (by kernel_rfl) Tryz.func3
    (ChangeSpec.witness_shaped (enc := enc) (C := Tryz.checked) (os := os) (X := fun w _ => laidMetH Tryz.prog Rows.fnExtPartsJoinedRow.laid w) false (World.laidAll Tryz.prog os Rows.fnExtPartsJoinedRow.laid) #[.agg (vcells 0 ⟨#[]⟩ ⟨#[]⟩ 0 0 0 (.slice none 0 0) (.slice none 0 0)), .agg (vcells 0 ⟨#[]⟩ ⟨#[]⟩ 0 0 0 (.slice none 0 0) (.slice none 0 0)), .bool true] 8 (World.laidAll_os _ _ _)
      (World.shaped_of_ZipB (by kernel_rfl) (by kernel_rfl)) (by kernel_rfl) (by kernel_rfl) (by kernel_rfl)
      (by rw [MakeChecks.laidMetH_plain _ _ _ (by kernel_rfl)]; exact laidMet_laidAll _ (by kernel_rfl) (by kernel_rfl))) ?_
  intro W base args ds gs before hval0 hW _ _ hL _
  have hval : ∀ (j : Nat) t v, Tryz.f3.params[j]? = some t → args[j]? = some v → Value.okWide Tryz.prog W .any base t v := hval0
  have hW' := hW
  obtain ⟨p, q, hA0, hV, rfl, _, _⟩ := hW
  have hA : DataW.TrodAll enc Tryz.prog W 0 (fun _ => true) true Tryz.f3.params.toList args.toList ds p := hA0
  rw [Tryz.params3] at hA hval
  obtain ⟨v0, v1, v2, d0, d1, d2, p0, p1, p2, rfl, rfl, rfl, h0, h1, h2⟩ := trodAll_three hA
  obtain ⟨rfl, rfl⟩ := trodVars_none hV
  have lt0 : ∀ x ∈ p0, x.block < W.heap.size := by obtain ⟨m, hm⟩ := h0; exact DataW.trod_lt m _ _ _ hm
  have lt1 : ∀ x ∈ p1, x.block < W.heap.size := by obtain ⟨m, hm⟩ := h1; exact DataW.trod_lt m _ _ _ hm
  have lt2 : ∀ x ∈ p2, x.block < W.heap.size := by obtain ⟨m, hm⟩ := h2; exact DataW.trod_lt m _ _ _ hm
  have k0 := h0
  have k1 := h1
  have k2 := h2
  obtain ⟨cs0, rfl, _⟩ := okWide_struct Tryz.underlying26 (hval 0 26 v0 rfl rfl)
  obtain ⟨cs1, rfl, _⟩ := okWide_struct Tryz.underlying26 (hval 1 26 v1 rfl rfl)
  obtain ⟨can, rfl, rfl, rfl⟩ := open_bool Tryz.underlying4 (hval 2 4 v2 rfl rfl) h2
  simp only [List.append_nil] at hW'
  rw [MakeChecks.laidMetH_plain _ _ _ (by kernel_rfl)] at hL
  have hT := tabs_of_laid hL (by simp [Rows.fnExtPartsJoinedRow]) (by simp [Rows.fnExtPartsJoinedRow]) (by simp [Rows.fnExtPartsJoinedRow]) (by simp [Rows.fnExtPartsJoinedRow]) (by simp [Rows.fnExtPartsJoinedRow]) (by simp [Rows.fnExtPartsJoinedRow]) (by simp [Rows.fnExtPartsJoinedRow])
  obtain ⟨x, hx⟩ : ∃ t : T, VAt W W.heap.size t (.agg cs0) := by
    obtain ⟨m, hm⟩ := h0
    have := tree_of_trod m _ _ hm
    rwa [show (Value.agg cs0).cells.toList.toArray = cs0 from Array.toArray_toList] at this
  obtain ⟨y, hy⟩ : ∃ t : T, VAt W W.heap.size t (.agg cs1) := by
    obtain ⟨m, hm⟩ := h1
    have := tree_of_trod m _ _ hm
    rwa [show (Value.agg cs1).cells.toList.toArray = cs1 from Array.toArray_toList] at this
  refine (law can x y W.heap.size _ _ W hx hy (Nat.le_refl _) hT).mono fun e W' ⟨he, bel⟩ => ?_
  subst he
  exact ⟨_, rfl, _, _, _, [], _, [], hW', trodAll_mk1 (shut_bool Tryz.underlying4 _), trodAll_mk3 (Below.trod laidOut (by kernel_rfl) (of_decide_eq_true (by kernel_rfl)) k0 bel lt0) (Below.trod laidOut (by kernel_rfl) (of_decide_eq_true (by kernel_rfl)) k1 bel lt1) (Below.trod laidOut (by kernel_rfl) (of_decide_eq_true (by kernel_rfl)) k2 bel lt2), rfl, bel.frame _, fun h => by cases h⟩

theorem joined_holds : Rows.FnExtPartsJoinedSaid :=
  OpenClaim.holds_of_wide 3 Tryz.f3 rfl rfl rfl rfl rfl rfl rfl ⟨rfl, rfl, rfl, rfl, rfl⟩ rfl rfl rfl rfl rfl (by kernel_rfl) Tryz.func3 (by kernel_rfl)
    (of_decide_eq_true (by kernel_rfl)) (by unfold Func.isWrapper; first | (rw [if_pos (by decide +kernel)]; kernel_rfl) | (rw [if_neg (by decide +kernel)]; exact ⟨rfl, rfl⟩))
    (fun os started H enc _ => joinedLifted os started H enc)

theorem joined_plain (f : FuncId) (fn : Func) (hf : Tryz.pinned.checked.prog.funcNamed "pub-gunnysack/laws.FnExtPartsJoined" = some f) (hfn : Tryz.pinned.checked.prog.funcs[f]? = some fn) :
    false = Tryz.pinned.checked.prog.looks [] ∧ ∀ (j : Nat) t, fn.params[j]? = some t → Tryz.pinned.checked.prog.wantsStandIn t = false := by
  obtain rfl : f = 3 := Option.some.inj ((show Tryz.prog.funcNamed "pub-gunnysack/laws.FnExtPartsJoined" = some 3 by kernel_rfl).symm.trans hf) |>.symm
  obtain rfl : fn = Tryz.f3 := (Option.some.inj (Tryz.func3.symm.trans hfn)).symm
  refine ⟨by kernel_rfl, fun j t ht => ?_⟩
  rw [Tryz.params3] at ht
  have hm : t ∈ [26, 26, 4] := by simpa using Array.mem_of_getElem? ht
  have hall : ([26, 26, 4].all fun u => !Tryz.prog.wantsStandIn u) = true := by kernel_rfl
  exact (show Tryz.prog.wantsStandIn t = false by simpa using List.all_eq_true.1 hall t hm)

/-- THE STATEMENT. -/
theorem joined_card : Rows.FnExtPartsJoinedCardSaid :=
  Claim7.holds_tied_plain_at .later [] _ _ _ _ joined_holds (fun _ h => by cases h) (by kernel_rfl) (fun _ h => by cases h) fnExtPartsJoined_row_tie rfl ⟨rfl, rfl⟩ (by kernel_rfl) rfl joined_plain (by kernel_rfl)
#print axioms joined_card
end Go.Proofs.YtpkfdbhpmhahaaaGreatDoor
