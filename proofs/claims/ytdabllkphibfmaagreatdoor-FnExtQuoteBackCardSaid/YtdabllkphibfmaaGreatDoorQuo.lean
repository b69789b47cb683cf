/- writeStringWithEscapes, by its contract. -/
import Derived.Test.YtdabllkphibfmaaGreatDoorQuoP
import Derived.Test.YtdabllkphibfmaaGreatDoorStrA
namespace Go.Proofs.YtdabllkphibfmaaGreatDoor
open Go Go.RowKit PFnExtStrings Go.Proofs.YtdabllkphibfmaaGreatDoorW.PrintWords

/-- The tables. -/
structure Sets (w : World) : Prop where
  html : ∀ b : Nat, b < 128 → w.cell? ⟨2, b, none⟩ = some (.bool (htmlB b))
  safe : ∀ b : Nat, b < 128 → w.cell? ⟨3, b, none⟩ = some (.bool (safeB b))
  tabs : Lib.Utf8Tabs 10 11 w

/-- The buffer, as it stands: bs in it. -/
structure BSt (w0 : World) (gb : Nat) (bs : List UInt8) (k : Nat) (w : World) : Prop where
  buf : Lib.IsBuffer 107 5 w0.heap.size gb (Lib.byteCells bs) w
  below : Below w0.heap.size w0 w
  len : bs.length ≤ k

theorem BSt.byte {w0 w : World} {gb k : Nat} {bs : List UInt8} (h : BSt w0 gb bs k w) (hk : k ≤ 1000000) (c : UInt8) :
    Calls Tryz.prog 60 #[.pointer (some ⟨gb, 0, none⟩), .int .u8 (c.toNat : Int)] w fun e w' => e = .returned .nilIface ∧ BSt w0 gb (bs ++ [c]) (k + 1) w' := by
  have hl := h.len
  refine (Tryz.Buffer_WriteByte_k w0.heap.size gb _ (c.toNat : Int) w h.buf h.below.size (byteCells_oneCell _) (by rw [byteCells_length]; omega)).mono ?_
  rintro e w' ⟨rfl, h1, h2, _⟩
  refine ⟨rfl, ?_, h.below.trans h2, by rw [List.length_append]; simp; omega⟩
  have e : Lib.byteCells (bs ++ [c]) = Lib.byteCells bs ++ [.int .u8 (c.toNat : Int)] := by simp [Lib.byteCells]
  rw [e]
  exact h1

theorem BSt.byteI {w0 w : World} {gb k : Nat} {bs : List UInt8} (h : BSt w0 gb bs k w) (hk : k ≤ 1000000) (c : Int) (hc : 0 ≤ c ∧ c < 256) :
    Calls Tryz.prog 60 #[.pointer (some ⟨gb, 0, none⟩), .int .u8 c] w fun e w' => e = .returned .nilIface ∧ BSt w0 gb (bs ++ [UInt8.ofNat c.toNat]) (k + 1) w' := by
  have e : ((UInt8.ofNat c.toNat).toNat : Int) = c := by rw [UInt8.toNat_ofNat']; omega
  have := h.byte hk (UInt8.ofNat c.toNat)
  rw [e] at this
  exact this

theorem BSt.str {w0 w : World} {gb k : Nat} {bs : List UInt8} (h : BSt w0 gb bs k w) (hk : k ≤ 1000000) (s : ByteArray) (hs : s.size ≤ 1000) :
    Calls Tryz.prog 61 #[.pointer (some ⟨gb, 0, none⟩), .string s] w fun e w' => e = .returned (.tuple #[.int .i64 s.size, .nilIface]) ∧ BSt w0 gb (bs ++ s.data.toList) (k + 1000) w' := by
  have hl := h.len
  refine (Tryz.Buffer_WriteString_k w0.heap.size gb _ s w h.buf h.below.size (byteCells_oneCell _) (by rw [byteCells_length]; omega)).mono ?_
  rintro e w' ⟨rfl, h1, h2, _⟩
  refine ⟨rfl, ?_, h.below.trans h2, by rw [List.length_append, data_length]; omega⟩
  have e : Lib.byteCells (bs ++ s.data.toList) = Lib.byteCells bs ++ Lib.byteCells s.data.toList := by simp [Lib.byteCells]
  rw [e]
  exact h1

/-- The state at the head of the loop. -/
structure WR (x : ByteArray) (gb : Nat) (w0 : World) (st i : Nat) (wx : World) (E : List UInt8) : Prop where
  hst : st ≤ i
  hi : i ≤ x.size
  chars : Chars x i
  buf : BSt w0 gb (34 :: E) 10000 wx
  len : E.length ≤ 6 * st
  readE : ReadAs E (x.data.toList.take st)
  readP : ReadAs (part x st i) (part x st i)

/-- A character that stands for itself. -/
theorem WR.plain {x : ByteArray} {gb : Nat} {w0 wx : World} {st i m : Nat} {E : List UInt8} (h : WR x gb w0 st i wx E) (ht : (x.data.toList.drop i).take (runeB m).length = runeB m) (hc : Chars x (i + (runeB m).length)) (hi : i + (runeB m).length ≤ x.size) (hp : ∀ c ∈ runeB m, c ≠ 34 ∧ c ≠ 92) :
    WR x gb w0 st (i + (runeB m).length) wx E := by
  refine ⟨by have := h.hst; omega, hi, hc, h.buf, h.len, h.readE, ?_⟩
  rw [part_more x st i h.hst _ ht]
  exact h.readP.append (ReadAs.plains _ hp)

/-- An escaped character. -/
theorem WR.esc {x : ByteArray} {gb : Nat} {w0 wx wy : World} {st i m k : Nat} {E e bs : List UInt8} (hx : x.size ≤ 300) (h : WR x gb w0 st i wx E) (ht : (x.data.toList.drop i).take (runeB m).length = runeB m) (hc : Chars x (i + (runeB m).length)) (hi : i + (runeB m).length ≤ x.size)
    (he : e.length ≤ 6) (hr : ReadAs e (runeB m)) (hb : BSt w0 gb bs k wy) (hbs : bs = 34 :: (E ++ part x st i ++ e)) :
    WR x gb w0 (i + (runeB m).length) (i + (runeB m).length) wy (E ++ part x st i ++ e) := by
  have hL := runeB_len m
  have hpl := part_length x st i (by omega)
  have hl : (E ++ part x st i ++ e).length ≤ 6 * (i + (runeB m).length) := by
    rw [List.length_append, List.length_append, hpl]
    have := h.len; have := h.hst; omega
  refine ⟨Nat.le_refl _, hi, hc, ⟨by rw [← hbs]; exact hb.buf, hb.below, by rw [List.length_cons]; omega⟩, hl, ?_, ?_⟩
  · rw [take_more x i _ ht, ← take_part x st i h.hst]
    exact (h.readE.append h.readP).append hr
  · rw [part_same]; exact .nil

/-- What the function leaves. -/
def QuoPost (x : ByteArray) (gb : Nat) (w0 : World) (e : Ending) (w' : World) : Prop :=
  ∃ E, e = .returned (.tuple #[]) ∧ Lib.IsBuffer 107 5 w0.heap.size gb (Lib.byteCells (34 :: (E ++ [34]))) w' ∧ Below w0.heap.size w0 w' ∧ E.length ≤ 2000 ∧ ReadAs E x.data.toList

theorem Sets.below {w w' : World} (h : Sets w) (hb : Below w.heap.size w w') : Sets w' := by
  have k : ∀ (a : Addr) v, w.cell? a = some v → w'.cell? a = some v := fun a v hc => (World.cell?_of_block (hb.block a.block (World.block_lt_of_cell? w a hc))).trans hc
  exact ⟨fun b hb => k _ _ (h.html b hb), fun b hb => k _ _ (h.safe b hb), fun c hc => k _ _ (h.tabs.1 c hc), fun i hi => ⟨k _ _ (h.tabs.2 i hi).1, k _ _ (h.tabs.2 i hi).2⟩⟩

theorem quo_end {x : ByteArray} {gb : Nat} {w0 wx wy : World} {st k : Nat} {E bs : List UInt8} (hx : x.size ≤ 300) (hst : st ≤ x.size) (h : WR x gb w0 st x.size wx E) (hb : BSt w0 gb bs k wy) (hbs : bs = 34 :: (E ++ part x st x.size ++ [34])) : QuoPost x gb w0 (.returned (.tuple #[])) wy := by
  refine ⟨E ++ part x st x.size, rfl, by rw [← hbs]; exact hb.buf, hb.below, ?_, ?_⟩
  · rw [List.length_append, part_length x st x.size (Nat.le_refl _)]
    have := h.len
    omega
  · have := h.readE.append h.readP
    rw [take_part x st x.size hst, List.take_of_length_le (by rw [data_length]; omega)] at this
    exact this

theorem runeB_len2 (m : Nat) (h : 128 ≤ m) : 1 < (runeB m).length := by
  have e : (runeB m).length = (Lib.encodeRuneZ m).length := by simp [runeB, Lib.encodeRune]
  rw [e]
  unfold Lib.encodeRuneZ
  rw [if_neg (by omega)]
  repeat' split
  all_goals simp

theorem BSt.go {w0 w w' : World} {gb k : Nat} {bs : List UInt8} (h : BSt w0 gb bs k w) (hb : Below w.heap.size w w') : BSt w0 gb bs k w' := by
  refine ⟨?_, h.below.trans (hb.mono h.below.size), h.len⟩
  exact Lib.IsBuffer.old h.buf hb

theorem runeB_ge (m : Nat) (h : 128 ≤ m) : ∀ c ∈ runeB m, 128 ≤ c.toNat := by
  intro c hc
  unfold runeB Lib.encodeRune at hc
  obtain ⟨x, hx, rfl⟩ := List.mem_map.1 hc
  have := encodeRuneZ_big m (by omega) x hx
  rw [Nat.toUInt8_eq, UInt8.toNat_ofNat']
  omega

theorem drop_extract (x : ByteArray) (i : Nat) (hi : i ≤ x.size) : (x.extract i x.size).data.toList = x.data.toList.drop i := by
  rw [extract_part x i x.size hi]
  unfold part
  rw [List.take_of_length_le (by rw [List.length_drop, data_length]; omega)]

theorem big_get {x : ByteArray} {i : Nat} {m : Nat} (ht : (x.data.toList.drop i).take (runeB m).length = runeB m) (hm : 128 ≤ m) (hi : i < x.size) : 128 ≤ (x[i]'hi).toNat := by
  have hL := runeB_len m
  have h1 : (runeB m)[0]? = some (x[i]'hi) := by
    rw [← ht, List.getElem?_take, if_pos (by omega), List.getElem?_drop, Nat.add_zero]
    rw [List.getElem?_eq_getElem (by rw [data_length]; exact hi)]
    rfl
  exact runeB_ge m hm _ (List.mem_of_getElem? h1)

theorem u202_ok8 : ReadAs [92, 117, 50, 48, 50, 56] (runeB 8232) := .unit _ _ _ _ 8232 (by decide) (by omega)
theorem u202_ok9 : ReadAs [92, 117, 50, 48, 50, 57] (runeB 8233) := .unit _ _ _ _ 8233 (by decide) (by omega)

theorem WR.go {x : ByteArray} {gb : Nat} {w0 wx wy : World} {st i : Nat} {E : List UInt8} (h : WR x gb w0 st i wx E) (hb : BSt w0 gb (34 :: E) 10000 wy) : WR x gb w0 st i wy E :=
  ⟨h.hst, h.hi, h.chars, hb, h.len, h.readE, h.readP⟩

theorem plain_one {m : Nat} (h128 : m < 128) (h : 32 ≤ m ∧ m ≠ 34 ∧ m ≠ 92) {c : UInt8} (hc : c ∈ [m.toUInt8]) : c ≠ 34 ∧ c ≠ 92 := by
  simp only [List.mem_cons, List.not_mem_nil, or_false] at hc
  have e : c.toNat = m := by rw [hc, Nat.toUInt8_eq, UInt8.toNat_ofNat']; omega
  constructor
  · rintro rfl
    have : (34 : UInt8).toNat = 34 := rfl
    omega
  · rintro rfl
    have : (92 : UInt8).toNat = 92 := rfl
    omega

def hexC : ByteArray := ⟨#[48, 49, 50, 51, 52, 53, 54, 55, 56, 57, 97, 98, 99, 100, 101, 102]⟩
theorem hexC_at : ∀ d : Fin 16, hexv (hexC[d.val]'d.isLt) = some d.val := by decide +kernel
theorem hex_ok (m : Nat) (h : m < 128) (h1 : m / 16 < 16) (h2 : m % 16 < 16) : ReadAs [92, 117, 48, 48, hexC[m / 16]'h1, hexC[m % 16]'h2] (runeB m) := by
  refine .unit _ _ _ _ m ?_ (by omega)
  have a := hexC_at ⟨m / 16, h1⟩
  have b := hexC_at ⟨m % 16, h2⟩
  have z : hexv 48 = some 0 := by decide
  unfold u4
  simp only at a b
  rw [a, b, z]
  simp only [Option.some.injEq]
  omega

theorem other_true {m : Nat} (h : htmlB m = false) (h34 : m ≠ 34) (h92 : m ≠ 92) : m < 32 ∨ m = 38 ∨ m = 60 ∨ m = 62 := by
  unfold htmlB safeB at h
  by_cases a : 32 ≤ m
  · simp [a, h34, h92] at h
    by_cases b : m = 38
    · exact .inr (.inl b)
    · by_cases c : m = 60
      · exact .inr (.inr (.inl c))
      · exact .inr (.inr (.inr (h b c)))
  · exact .inl (by omega)

theorem char_get {x : ByteArray} {i : Nat} {m : Nat} (ht : (x.data.toList.drop i).take (runeB m).length = runeB m) (hm : m < 128) (hi : i < x.size) : (x[i]'hi).toNat = m := by
  rw [runeB_one m hm] at ht
  have h1 := congrArg (fun l => l[0]?) ht
  simp only [List.length_cons, List.length_nil, Nat.zero_add, List.getElem?_take, List.getElem?_drop, Nat.add_zero] at h1
  rw [if_pos (by decide)] at h1
  have h2 := get_byte x i _ h1
  have h3 : x.get! i = x[i]'hi := by
    have : x.get! i = x.data[i]! := rfl
    rw [this, getElem!_pos x.data i hi]
    rfl
  rw [← h3, h2, Nat.toUInt8_eq, UInt8.toNat_ofNat']
  omega

set_option maxRecDepth 1000000 in
set_option maxHeartbeats 8000000 in
theorem writeEscT (x : ByteArray) (hx : x.size ≤ 300) (gb : Nat) (w0 w : World) (hch : Chars x 0) (hS : Sets w0) (hbuf : Lib.IsBuffer 107 5 w0.heap.size gb [] w) (hbel : Below w0.heap.size w0 w) :
    Calls Tryz.prog 42 #[.string x, .pointer (some ⟨gb, 0, none⟩), .bool true] w (QuoPost x gb w0) := by
  have hs0 : BSt w0 gb [] 0 w := ⟨hbuf, hbel, by simp⟩
  have HB := Lib.hid hs0
  have HC := Lib.hid hch
  have HS := Lib.hid hS
  clear hs0 hch hbuf hbel hS
  go_enter Tryz.func42, Tryz.ntmps42
  go_wp2_with (first | (go_at_call 60; refine (HB.out.byte (by decide) 34).mono ?_; rintro e w1 ⟨rfl, h1⟩; have HB1 := Lib.hid h1; clear h1))
  go_loopg [6, 7] x.size (fun m v6 v7 wx => Aside (∃ (st i : Nat) (E : List UInt8), m = x.size - i ∧ v6 = .int .i64 (st : Int) ∧ v7 = .int .i64 (i : Int) ∧ WR x gb w0 st i wx E))
  case atStart =>
    exact ⟨0, 0, [], rfl, rfl, rfl, ⟨by omega, by omega, HC.out, ⟨HB1.out.buf, HB1.out.below, by simp⟩, by simp, .nil, by rw [part_same]; exact .nil⟩⟩
  case round =>
    obtain ⟨st, i, E, hgk, rfl, rfl, hwr⟩ := hrel.out
    have hst := hwr.hst
    have hi := hwr.hi
    clear hrel HB1 HB HC
    have HW := Lib.hid hwr
    have HW2 := Lib.hid hwr.buf
    cases hwr.chars with
    | end_ =>
      clear hwr
      by_cases hlt : st < x.size
      · have hxs : (x.extract st x.size).size ≤ 1000 := by rw [← data_length, extract_part x st x.size hst, part_length x st x.size (Nat.le_refl _)]; omega
        go_wp2_with (first | (go_at_call 60; refine Calls.mono (BSt.byteI HW2.out (by decide) _ (by first | decide | omega)) ?_; rintro e w9 ⟨rfl, h9⟩; clear HW2; have HW2 := Lib.hid h9; clear h9) | (go_at_call 61; refine Calls.mono (BSt.str HW2.out (by decide) _ (by first | with_reducible exact hxs | decide)) ?_; rintro e w9 ⟨rfl, h9⟩; clear HW2; have HW2 := Lib.hid h9; clear h9))
        go_end0
        exact quo_end hx hst HW.out HW2.out (by rw [extract_part x st x.size hst]; simp)
      · have hse : st = x.size := by omega
        subst hse
        go_wp2_with (first | (go_at_call 60; refine Calls.mono (BSt.byteI HW2.out (by decide) _ (by first | decide | omega)) ?_; rintro e w9 ⟨rfl, h9⟩; clear HW2; have HW2 := Lib.hid h9; clear h9))
        go_end0
        exact quo_end hx hst HW.out HW2.out (by rw [part_same]; simp)
    | char _ m hlt hm hr ht hc =>
      clear hr
      have hset := HS.out.below hwr.buf.below
      clear hwr
      have HT := Lib.hid ht
      have HCC := Lib.hid hc
      by_cases h128 : m < 128
      · have hget := char_get ht h128 hlt
        have hh := hset.html m h128
        have hsf := hset.safe m h128
        have hL : (runeB m).length = 1 := by rw [runeB_one m h128]; rfl
        have hiL : i + (runeB m).length ≤ x.size := by omega
        clear hset ht hc
        by_cases hpl : htmlB m = true
        · have hok := plainB_ok (esc := true) (b := m) (by unfold plainB; rw [hpl]; rfl)
          rw [hpl] at hh
          go_wp2
          go_roundg (x.size - (i + 1))
          case measure => omega
          case rel => exact ⟨st, i + (runeB m).length, E, by rw [hL], rfl, by rw [hL]; rfl, HW.out.plain HT.out HCC.out hiL (by rw [runeB_one m h128]; intro c hc; exact plain_one h128 hok hc)⟩
        have hpl := eq_false_of_ne_true hpl
        rw [hpl] at hh
        by_cases hm34 : m = 34
        · subst hm34
          have hre : ReadAs [92, 34] (runeB 34) := .esc 34 34 (by decide) (by decide)
          rcases Nat.lt_or_eq_of_le hst with hf | hf
          · have hxs : (x.extract st i).size ≤ 1000 := by rw [← data_length, extract_part x st i hst, part_length x st i hi]; omega
            go_wp2_with (first | (go_at_call 60; refine Calls.mono (BSt.byteI HW2.out (by decide) _ (by first | decide | omega)) ?_; rintro e w9 ⟨rfl, h9⟩; clear HW2; have HW2 := Lib.hid h9; clear h9) | (go_at_call 61; refine Calls.mono (BSt.str HW2.out (by decide) _ (by first | with_reducible exact hxs | decide)) ?_; rintro e w9 ⟨rfl, h9⟩; clear HW2; have HW2 := Lib.hid h9; clear h9))
            go_roundg (x.size - (i + 1))
            case measure => omega
            case rel => exact ⟨_, _, _, by rw [hL], by rw [hL]; rfl, by rw [hL]; rfl, WR.esc (e := [92, 34]) hx HW.out HT.out HCC.out hiL (by decide) hre HW2.out (by rw [extract_part x st i hst]; simp)⟩
          · subst hf
            go_wp2_with (first | (go_at_call 60; refine Calls.mono (BSt.byteI HW2.out (by decide) _ (by first | decide | omega)) ?_; rintro e w9 ⟨rfl, h9⟩; clear HW2; have HW2 := Lib.hid h9; clear h9) | (go_at_call 61; refine Calls.mono (BSt.str HW2.out (by decide) _ (by decide)) ?_; rintro e w9 ⟨rfl, h9⟩; clear HW2; have HW2 := Lib.hid h9; clear h9))
            go_roundg (x.size - (st + 1))
            case measure => omega
            case rel => exact ⟨_, _, _, by rw [hL], by rw [hL]; rfl, by rw [hL]; rfl, WR.esc (e := [92, 34]) hx HW.out HT.out HCC.out hiL (by decide) hre HW2.out (by rw [part_same]; simp)⟩
        by_cases hm92 : m = 92
        · subst hm92
          have hre : ReadAs [92, 92] (runeB 92) := .esc 92 92 (by decide) (by decide)
          rcases Nat.lt_or_eq_of_le hst with hf | hf
          · have hxs : (x.extract st i).size ≤ 1000 := by rw [← data_length, extract_part x st i hst, part_length x st i hi]; omega
            go_wp2_with (first | (go_at_call 60; refine Calls.mono (BSt.byteI HW2.out (by decide) _ (by first | decide | omega)) ?_; rintro e w9 ⟨rfl, h9⟩; clear HW2; have HW2 := Lib.hid h9; clear h9) | (go_at_call 61; refine Calls.mono (BSt.str HW2.out (by decide) _ (by first | with_reducible exact hxs | decide)) ?_; rintro e w9 ⟨rfl, h9⟩; clear HW2; have HW2 := Lib.hid h9; clear h9))
            go_roundg (x.size - (i + 1))
            case measure => omega
            case rel => exact ⟨_, _, _, by rw [hL], by rw [hL]; rfl, by rw [hL]; rfl, WR.esc (e := [92, 92]) hx HW.out HT.out HCC.out hiL (by decide) hre HW2.out (by rw [extract_part x st i hst]; simp)⟩
          · subst hf
            go_wp2_with (first | (go_at_call 60; refine Calls.mono (BSt.byteI HW2.out (by decide) _ (by first | decide | omega)) ?_; rintro e w9 ⟨rfl, h9⟩; clear HW2; have HW2 := Lib.hid h9; clear h9) | (go_at_call 61; refine Calls.mono (BSt.str HW2.out (by decide) _ (by decide)) ?_; rintro e w9 ⟨rfl, h9⟩; clear HW2; have HW2 := Lib.hid h9; clear h9))
            go_roundg (x.size - (st + 1))
            case measure => omega
            case rel => exact ⟨_, _, _, by rw [hL], by rw [hL]; rfl, by rw [hL]; rfl, WR.esc (e := [92, 92]) hx HW.out HT.out HCC.out hiL (by decide) hre HW2.out (by rw [part_same]; simp)⟩
        by_cases hm10 : m = 10
        · subst hm10
          have hre : ReadAs [92, 110] (runeB 10) := .esc 110 10 (by decide) (by decide)
          rcases Nat.lt_or_eq_of_le hst with hf | hf
          · have hxs : (x.extract st i).size ≤ 1000 := by rw [← data_length, extract_part x st i hst, part_length x st i hi]; omega
            go_wp2_with (first | (go_at_call 60; refine Calls.mono (BSt.byteI HW2.out (by decide) _ (by first | decide | omega)) ?_; rintro e w9 ⟨rfl, h9⟩; clear HW2; have HW2 := Lib.hid h9; clear h9) | (go_at_call 61; refine Calls.mono (BSt.str HW2.out (by decide) _ (by first | with_reducible exact hxs | decide)) ?_; rintro e w9 ⟨rfl, h9⟩; clear HW2; have HW2 := Lib.hid h9; clear h9))
            go_roundg (x.size - (i + 1))
            case measure => omega
            case rel => exact ⟨_, _, _, by rw [hL], by rw [hL]; rfl, by rw [hL]; rfl, WR.esc (e := [92, 110]) hx HW.out HT.out HCC.out hiL (by decide) hre HW2.out (by rw [extract_part x st i hst]; simp)⟩
          · subst hf
            go_wp2_with (first | (go_at_call 60; refine Calls.mono (BSt.byteI HW2.out (by decide) _ (by first | decide | omega)) ?_; rintro e w9 ⟨rfl, h9⟩; clear HW2; have HW2 := Lib.hid h9; clear h9) | (go_at_call 61; refine Calls.mono (BSt.str HW2.out (by decide) _ (by decide)) ?_; rintro e w9 ⟨rfl, h9⟩; clear HW2; have HW2 := Lib.hid h9; clear h9))
            go_roundg (x.size - (st + 1))
            case measure => omega
            case rel => exact ⟨_, _, _, by rw [hL], by rw [hL]; rfl, by rw [hL]; rfl, WR.esc (e := [92, 110]) hx HW.out HT.out HCC.out hiL (by decide) hre HW2.out (by rw [part_same]; simp)⟩
        by_cases hm13 : m = 13
        · subst hm13
          have hre : ReadAs [92, 114] (runeB 13) := .esc 114 13 (by decide) (by decide)
          rcases Nat.lt_or_eq_of_le hst with hf | hf
          · have hxs : (x.extract st i).size ≤ 1000 := by rw [← data_length, extract_part x st i hst, part_length x st i hi]; omega
            go_wp2_with (first | (go_at_call 60; refine Calls.mono (BSt.byteI HW2.out (by decide) _ (by first | decide | omega)) ?_; rintro e w9 ⟨rfl, h9⟩; clear HW2; have HW2 := Lib.hid h9; clear h9) | (go_at_call 61; refine Calls.mono (BSt.str HW2.out (by decide) _ (by first | with_reducible exact hxs | decide)) ?_; rintro e w9 ⟨rfl, h9⟩; clear HW2; have HW2 := Lib.hid h9; clear h9))
            go_roundg (x.size - (i + 1))
            case measure => omega
            case rel => exact ⟨_, _, _, by rw [hL], by rw [hL]; rfl, by rw [hL]; rfl, WR.esc (e := [92, 114]) hx HW.out HT.out HCC.out hiL (by decide) hre HW2.out (by rw [extract_part x st i hst]; simp)⟩
          · subst hf
            go_wp2_with (first | (go_at_call 60; refine Calls.mono (BSt.byteI HW2.out (by decide) _ (by first | decide | omega)) ?_; rintro e w9 ⟨rfl, h9⟩; clear HW2; have HW2 := Lib.hid h9; clear h9) | (go_at_call 61; refine Calls.mono (BSt.str HW2.out (by decide) _ (by decide)) ?_; rintro e w9 ⟨rfl, h9⟩; clear HW2; have HW2 := Lib.hid h9; clear h9))
            go_roundg (x.size - (st + 1))
            case measure => omega
            case rel => exact ⟨_, _, _, by rw [hL], by rw [hL]; rfl, by rw [hL]; rfl, WR.esc (e := [92, 114]) hx HW.out HT.out HCC.out hiL (by decide) hre HW2.out (by rw [part_same]; simp)⟩
        by_cases hm9 : m = 9
        · subst hm9
          have hre : ReadAs [92, 116] (runeB 9) := .esc 116 9 (by decide) (by decide)
          rcases Nat.lt_or_eq_of_le hst with hf | hf
          · have hxs : (x.extract st i).size ≤ 1000 := by rw [← data_length, extract_part x st i hst, part_length x st i hi]; omega
            go_wp2_with (first | (go_at_call 60; refine Calls.mono (BSt.byteI HW2.out (by decide) _ (by first | decide | omega)) ?_; rintro e w9 ⟨rfl, h9⟩; clear HW2; have HW2 := Lib.hid h9; clear h9) | (go_at_call 61; refine Calls.mono (BSt.str HW2.out (by decide) _ (by first | with_reducible exact hxs | decide)) ?_; rintro e w9 ⟨rfl, h9⟩; clear HW2; have HW2 := Lib.hid h9; clear h9))
            go_roundg (x.size - (i + 1))
            case measure => omega
            case rel => exact ⟨_, _, _, by rw [hL], by rw [hL]; rfl, by rw [hL]; rfl, WR.esc (e := [92, 116]) hx HW.out HT.out HCC.out hiL (by decide) hre HW2.out (by rw [extract_part x st i hst]; simp)⟩
          · subst hf
            go_wp2_with (first | (go_at_call 60; refine Calls.mono (BSt.byteI HW2.out (by decide) _ (by first | decide | omega)) ?_; rintro e w9 ⟨rfl, h9⟩; clear HW2; have HW2 := Lib.hid h9; clear h9) | (go_at_call 61; refine Calls.mono (BSt.str HW2.out (by decide) _ (by decide)) ?_; rintro e w9 ⟨rfl, h9⟩; clear HW2; have HW2 := Lib.hid h9; clear h9))
            go_roundg (x.size - (st + 1))
            case measure => omega
            case rel => exact ⟨_, _, _, by rw [hL], by rw [hL]; rfl, by rw [hL]; rfl, WR.esc (e := [92, 116]) hx HW.out HT.out HCC.out hiL (by decide) hre HW2.out (by rw [part_same]; simp)⟩
        by_cases hm8 : m = 8
        · subst hm8
          have hre : ReadAs [92, 98] (runeB 8) := .esc 98 8 (by decide) (by decide)
          rcases Nat.lt_or_eq_of_le hst with hf | hf
          · have hxs : (x.extract st i).size ≤ 1000 := by rw [← data_length, extract_part x st i hst, part_length x st i hi]; omega
            go_wp2_with (first | (go_at_call 60; refine Calls.mono (BSt.byteI HW2.out (by decide) _ (by first | decide | omega)) ?_; rintro e w9 ⟨rfl, h9⟩; clear HW2; have HW2 := Lib.hid h9; clear h9) | (go_at_call 61; refine Calls.mono (BSt.str HW2.out (by decide) _ (by first | with_reducible exact hxs | decide)) ?_; rintro e w9 ⟨rfl, h9⟩; clear HW2; have HW2 := Lib.hid h9; clear h9))
            go_roundg (x.size - (i + 1))
            case measure => omega
            case rel => exact ⟨_, _, _, by rw [hL], by rw [hL]; rfl, by rw [hL]; rfl, WR.esc (e := [92, 98]) hx HW.out HT.out HCC.out hiL (by decide) hre HW2.out (by rw [extract_part x st i hst]; simp)⟩
          · subst hf
            go_wp2_with (first | (go_at_call 60; refine Calls.mono (BSt.byteI HW2.out (by decide) _ (by first | decide | omega)) ?_; rintro e w9 ⟨rfl, h9⟩; clear HW2; have HW2 := Lib.hid h9; clear h9) | (go_at_call 61; refine Calls.mono (BSt.str HW2.out (by decide) _ (by decide)) ?_; rintro e w9 ⟨rfl, h9⟩; clear HW2; have HW2 := Lib.hid h9; clear h9))
            go_roundg (x.size - (st + 1))
            case measure => omega
            case rel => exact ⟨_, _, _, by rw [hL], by rw [hL]; rfl, by rw [hL]; rfl, WR.esc (e := [92, 98]) hx HW.out HT.out HCC.out hiL (by decide) hre HW2.out (by rw [part_same]; simp)⟩
        by_cases hm12 : m = 12
        · subst hm12
          have hre : ReadAs [92, 102] (runeB 12) := .esc 102 12 (by decide) (by decide)
          rcases Nat.lt_or_eq_of_le hst with hf | hf
          · have hxs : (x.extract st i).size ≤ 1000 := by rw [← data_length, extract_part x st i hst, part_length x st i hi]; omega
            go_wp2_with (first | (go_at_call 60; refine Calls.mono (BSt.byteI HW2.out (by decide) _ (by first | decide | omega)) ?_; rintro e w9 ⟨rfl, h9⟩; clear HW2; have HW2 := Lib.hid h9; clear h9) | (go_at_call 61; refine Calls.mono (BSt.str HW2.out (by decide) _ (by first | with_reducible exact hxs | decide)) ?_; rintro e w9 ⟨rfl, h9⟩; clear HW2; have HW2 := Lib.hid h9; clear h9))
            go_roundg (x.size - (i + 1))
            case measure => omega
            case rel => exact ⟨_, _, _, by rw [hL], by rw [hL]; rfl, by rw [hL]; rfl, WR.esc (e := [92, 102]) hx HW.out HT.out HCC.out hiL (by decide) hre HW2.out (by rw [extract_part x st i hst]; simp)⟩
          · subst hf
            go_wp2_with (first | (go_at_call 60; refine Calls.mono (BSt.byteI HW2.out (by decide) _ (by first | decide | omega)) ?_; rintro e w9 ⟨rfl, h9⟩; clear HW2; have HW2 := Lib.hid h9; clear h9) | (go_at_call 61; refine Calls.mono (BSt.str HW2.out (by decide) _ (by decide)) ?_; rintro e w9 ⟨rfl, h9⟩; clear HW2; have HW2 := Lib.hid h9; clear h9))
            go_roundg (x.size - (st + 1))
            case measure => omega
            case rel => exact ⟨_, _, _, by rw [hL], by rw [hL]; rfl, by rw [hL]; rfl, WR.esc (e := [92, 102]) hx HW.out HT.out HCC.out hiL (by decide) hre HW2.out (by rw [part_same]; simp)⟩
        have hm32 : m < 32 ∨ m = 38 ∨ m = 60 ∨ m = 62 := other_true hpl hm34 hm92
        have n92 : ((m : Int) == 92) = false := by simp only [beq_eq_false_iff_ne, ne_eq]; omega
        have n34 : ((m : Int) == 34) = false := by simp only [beq_eq_false_iff_ne, ne_eq]; omega
        have n10 : ((m : Int) == 10) = false := by simp only [beq_eq_false_iff_ne, ne_eq]; omega
        have n13 : ((m : Int) == 13) = false := by simp only [beq_eq_false_iff_ne, ne_eq]; omega
        have n9 : ((m : Int) == 9) = false := by simp only [beq_eq_false_iff_ne, ne_eq]; omega
        have n8 : ((m : Int) == 8) = false := by simp only [beq_eq_false_iff_ne, ne_eq]; omega
        have n12 : ((m : Int) == 12) = false := by simp only [beq_eq_false_iff_ne, ne_eq]; omega
        have h15 : bits .and .u8 (m : Int) 15 = ((m % 16 : Nat) : Int) := by rw [u8_and15 (x := (m : Int)) (by omega) (by omega)]; omega
        have hq1 : m / 16 < 16 := by omega
        have hq2 : m % 16 < 16 := by omega
        rcases Nat.lt_or_eq_of_le hst with hf | hf
        · have hxs : (x.extract st i).size ≤ 1000 := by rw [← data_length, extract_part x st i hst, part_length x st i hi]; omega
          go_wp2_with (first | (go_at_call 60; refine Calls.mono (BSt.byteI HW2.out (by decide) _ (by first | decide | omega)) ?_; rintro e w9 ⟨rfl, h9⟩; clear HW2; have HW2 := Lib.hid h9; clear h9) | (go_at_call 60; refine Calls.mono (BSt.byte HW2.out (by decide) _) ?_; rintro e w9 ⟨rfl, h9⟩; clear HW2; have HW2 := Lib.hid h9; clear h9) | (go_at_call 61; refine Calls.mono (BSt.str HW2.out (by decide) _ (by first | with_reducible exact hxs | decide)) ?_; rintro e w9 ⟨rfl, h9⟩; clear HW2; have HW2 := Lib.hid h9; clear h9))
          go_roundg (x.size - (i + 1))
          case measure => omega
          case rel => exact ⟨_, _, _, by rw [hL], by rw [hL]; rfl, by rw [hL]; rfl, WR.esc (e := [92, 117, 48, 48, hexC[m / 16]'hq1, hexC[m % 16]'hq2]) hx HW.out HT.out HCC.out hiL (by simp) (hex_ok m h128 hq1 hq2) HW2.out (by rw [extract_part x st i hst]; simp [hexC])⟩
        · subst hf
          go_wp2_with (first | (go_at_call 60; refine Calls.mono (BSt.byteI HW2.out (by decide) _ (by first | decide | omega)) ?_; rintro e w9 ⟨rfl, h9⟩; clear HW2; have HW2 := Lib.hid h9; clear h9) | (go_at_call 60; refine Calls.mono (BSt.byte HW2.out (by decide) _) ?_; rintro e w9 ⟨rfl, h9⟩; clear HW2; have HW2 := Lib.hid h9; clear h9) | (go_at_call 61; refine Calls.mono (BSt.str HW2.out (by decide) _ (by decide)) ?_; rintro e w9 ⟨rfl, h9⟩; clear HW2; have HW2 := Lib.hid h9; clear h9))
          go_roundg (x.size - (st + 1))
          case measure => omega
          case rel => exact ⟨_, _, _, by rw [hL], by rw [hL]; rfl, by rw [hL]; rfl, WR.esc (e := [92, 117, 48, 48, hexC[m / 16]'hq1, hexC[m % 16]'hq2]) hx HW.out HT.out HCC.out hiL (by simp) (hex_ok m h128 hq1 hq2) HW2.out (by rw [part_same]; simp [hexC])⟩
      · have hset2 := hset.tabs
        have HTB := Lib.hid hset2
        have hne : ¬ (x.extract i x.size).size = 0 := by rw [← data_length, extract_part x i x.size hi, part_length x i x.size (Nat.le_refl _)]; omega
        have hdec : Lib.decodeGo (x.extract i x.size) = (m, (runeB m).length) := by
          unfold Lib.decodeGo
          rw [if_neg hne, decode_is (x.extract i x.size) 0 m hm (by omega) (by rw [List.drop_zero, drop_extract x i hi]; exact ht)]
        obtain ⟨L, hL⟩ : ∃ L, L = (runeB m).length := ⟨_, rfl⟩
        have hL2 : 1 < L := by rw [hL]; exact runeB_len2 m (by omega)
        have hL4 : L ≤ 4 := by rw [hL]; exact (runeB_len m).2
        have hiL : i + (runeB m).length ≤ x.size := by
          have h1 := congrArg List.length ht
          rw [List.length_take, List.length_drop, data_length] at h1
          omega
        have hiL2 : i + L ≤ x.size := by rw [hL]; exact hiL
        rw [← hL] at hdec
        have hget : ¬ ((x[i]'hlt).toNat < 128) := Nat.not_lt.2 (big_get ht (by omega) hlt)
        have nL1 : ((L : Int) == 1) = false := by simp only [beq_eq_false_iff_ne, ne_eq]; omega
        clear hset hset2 ht hc
        by_cases h8232 : m = 8232
        · subst h8232
          have hL3 : L = 3 := by rw [hL]; decide
          rw [hL3] at hdec
          rcases Nat.lt_or_eq_of_le hst with hf | hf
          · have hxs : (x.extract st i).size ≤ 1000 := by rw [← data_length, extract_part x st i hst, part_length x st i hi]; omega
            go_wp2_with (first | (go_at_call 60; refine Calls.mono (BSt.byteI HW2.out (by decide) _ (by first | decide | omega)) ?_; rintro e w9 ⟨rfl, h9⟩; clear HW2; have HW2 := Lib.hid h9; clear h9) | (go_at_call 60; refine Calls.mono (BSt.byte HW2.out (by decide) _) ?_; rintro e w9 ⟨rfl, h9⟩; clear HW2; have HW2 := Lib.hid h9; clear h9) | (go_at_call 62; refine Calls.mono (Tryz.utf8_DecodeRuneInString _ _ HTB.out) ?_; rintro e w9 ⟨rfl, h9⟩; rw [hdec]; have HW3 := Lib.hid (HW2.out.go h9); clear HW2; have HW2 := HW3; clear h9 HW3) | (go_at_call 61; refine Calls.mono (BSt.str HW2.out (by decide) _ (by first | with_reducible exact hxs | decide)) ?_; rintro e w9 ⟨rfl, h9⟩; clear HW2; have HW2 := Lib.hid h9; clear h9))
            go_roundg (x.size - (i + 3))
            case measure => omega
            case rel => exact ⟨_, _, _, by rw [← hL, hL3], by rw [← hL, hL3]; rfl, by rw [← hL, hL3]; rfl, WR.esc (e := [92, 117, 50, 48, 50, 56]) hx HW.out HT.out HCC.out hiL (by decide) u202_ok8 HW2.out (by rw [extract_part x st i hst]; simp; rfl)⟩
          · subst hf
            go_wp2_with (first | (go_at_call 60; refine Calls.mono (BSt.byteI HW2.out (by decide) _ (by first | decide | omega)) ?_; rintro e w9 ⟨rfl, h9⟩; clear HW2; have HW2 := Lib.hid h9; clear h9) | (go_at_call 60; refine Calls.mono (BSt.byte HW2.out (by decide) _) ?_; rintro e w9 ⟨rfl, h9⟩; clear HW2; have HW2 := Lib.hid h9; clear h9) | (go_at_call 62; refine Calls.mono (Tryz.utf8_DecodeRuneInString _ _ HTB.out) ?_; rintro e w9 ⟨rfl, h9⟩; rw [hdec]; have HW3 := Lib.hid (HW2.out.go h9); clear HW2; have HW2 := HW3; clear h9 HW3) | (go_at_call 61; refine Calls.mono (BSt.str HW2.out (by decide) _ (by decide)) ?_; rintro e w9 ⟨rfl, h9⟩; clear HW2; have HW2 := Lib.hid h9; clear h9))
            go_roundg (x.size - (st + 3))
            case measure => omega
            case rel => exact ⟨_, _, _, by rw [← hL, hL3], by rw [← hL, hL3]; rfl, by rw [← hL, hL3]; rfl, WR.esc (e := [92, 117, 50, 48, 50, 56]) hx HW.out HT.out HCC.out hiL (by decide) u202_ok8 HW2.out (by rw [part_same]; simp; rfl)⟩
        by_cases h8233 : m = 8233
        · subst h8233
          have hL3 : L = 3 := by rw [hL]; decide
          rw [hL3] at hdec
          rcases Nat.lt_or_eq_of_le hst with hf | hf
          · have hxs : (x.extract st i).size ≤ 1000 := by rw [← data_length, extract_part x st i hst, part_length x st i hi]; omega
            go_wp2_with (first | (go_at_call 60; refine Calls.mono (BSt.byteI HW2.out (by decide) _ (by first | decide | omega)) ?_; rintro e w9 ⟨rfl, h9⟩; clear HW2; have HW2 := Lib.hid h9; clear h9) | (go_at_call 60; refine Calls.mono (BSt.byte HW2.out (by decide) _) ?_; rintro e w9 ⟨rfl, h9⟩; clear HW2; have HW2 := Lib.hid h9; clear h9) | (go_at_call 62; refine Calls.mono (Tryz.utf8_DecodeRuneInString _ _ HTB.out) ?_; rintro e w9 ⟨rfl, h9⟩; rw [hdec]; have HW3 := Lib.hid (HW2.out.go h9); clear HW2; have HW2 := HW3; clear h9 HW3) | (go_at_call 61; refine Calls.mono (BSt.str HW2.out (by decide) _ (by first | with_reducible exact hxs | decide)) ?_; rintro e w9 ⟨rfl, h9⟩; clear HW2; have HW2 := Lib.hid h9; clear h9))
            go_roundg (x.size - (i + 3))
            case measure => omega
            case rel => exact ⟨_, _, _, by rw [← hL, hL3], by rw [← hL, hL3]; rfl, by rw [← hL, hL3]; rfl, WR.esc (e := [92, 117, 50, 48, 50, 57]) hx HW.out HT.out HCC.out hiL (by decide) u202_ok9 HW2.out (by rw [extract_part x st i hst]; simp; rfl)⟩
          · subst hf
            go_wp2_with (first | (go_at_call 60; refine Calls.mono (BSt.byteI HW2.out (by decide) _ (by first | decide | omega)) ?_; rintro e w9 ⟨rfl, h9⟩; clear HW2; have HW2 := Lib.hid h9; clear h9) | (go_at_call 60; refine Calls.mono (BSt.byte HW2.out (by decide) _) ?_; rintro e w9 ⟨rfl, h9⟩; clear HW2; have HW2 := Lib.hid h9; clear h9) | (go_at_call 62; refine Calls.mono (Tryz.utf8_DecodeRuneInString _ _ HTB.out) ?_; rintro e w9 ⟨rfl, h9⟩; rw [hdec]; have HW3 := Lib.hid (HW2.out.go h9); clear HW2; have HW2 := HW3; clear h9 HW3) | (go_at_call 61; refine Calls.mono (BSt.str HW2.out (by decide) _ (by decide)) ?_; rintro e w9 ⟨rfl, h9⟩; clear HW2; have HW2 := Lib.hid h9; clear h9))
            go_roundg (x.size - (st + 3))
            case measure => omega
            case rel => exact ⟨_, _, _, by rw [← hL, hL3], by rw [← hL, hL3]; rfl, by rw [← hL, hL3]; rfl, WR.esc (e := [92, 117, 50, 48, 50, 57]) hx HW.out HT.out HCC.out hiL (by decide) u202_ok9 HW2.out (by rw [part_same]; simp; rfl)⟩
        have n28 : ((m : Int) == 8232) = false := by simp only [beq_eq_false_iff_ne, ne_eq]; omega
        have n29 : ((m : Int) == 8233) = false := by simp only [beq_eq_false_iff_ne, ne_eq]; omega
        have hbig := runeB_big m (by omega)
        by_cases hfd : m = 65533
        · subst hfd
          have hL3 : L = 3 := by rw [hL]; decide
          rw [hL3] at hdec nL1
          go_wp2_with (first | (go_at_call 62; refine Calls.mono (Tryz.utf8_DecodeRuneInString _ _ HTB.out) ?_; rintro e w9 ⟨rfl, h9⟩; rw [hdec]; have h9b := HW.out.buf.go h9; have HWG := Lib.hid h9b; clear h9))
          go_roundg (x.size - (i + 3))
          case measure => omega
          case rel => exact ⟨st, i + (runeB 65533).length, E, by rw [← hL, hL3], rfl, by rw [← hL, hL3]; rfl, WR.go (HW.out.plain HT.out HCC.out hiL hbig) HWG.out⟩
        · have nfd : ((m : Int) == 65533) = false := by simp only [beq_eq_false_iff_ne, ne_eq]; omega
          go_wp2_with (first | (go_at_call 62; refine Calls.mono (Tryz.utf8_DecodeRuneInString _ _ HTB.out) ?_; rintro e w9 ⟨rfl, h9⟩; rw [hdec]; have h9b := HW.out.buf.go h9; have HWG := Lib.hid h9b; clear h9))
          go_roundg (x.size - (i + L))
          case measure => omega
          case rel => exact ⟨st, i + (runeB m).length, E, by rw [hL], rfl, by rw [← hL]; rfl, WR.go (HW.out.plain HT.out HCC.out hiL hbig) HWG.out⟩

end Go.Proofs.YtdabllkphibfmaaGreatDoor
