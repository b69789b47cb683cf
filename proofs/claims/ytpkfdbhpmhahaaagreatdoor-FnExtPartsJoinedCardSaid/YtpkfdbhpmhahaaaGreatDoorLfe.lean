/- writeStringWithEscapes: one answer for a text. -/
import Derived.Test.YtpkfdbhpmhahaaaGreatDoorGc
import Derived.Test.YtpkfdbhpmhahaaaGreatDoorGb
import Derived.Shelf.Unicode.DecodeLastEight
namespace Go.Proofs.YtpkfdbhpmhahaaaGreatDoor
open Go Go.RowKit
set_option linter.unusedSimpArgs false
set_option linter.unusedVariables false

def part (x : ByteArray) (a b : Nat) : List UInt8 := (x.data.toList.drop a).take (b - a)
theorem part_same (x : ByteArray) (a : Nat) : part x a a = [] := by simp [part]
theorem part_length (x : ByteArray) (a b : Nat) (hb : b ≤ x.size) : (part x a b).length = b - a := by
  unfold part
  rw [List.length_take, List.length_drop, data_length]
  omega
theorem extract_part (x : ByteArray) (a b : Nat) : (x.extract a b).data.toList = part x a b := by
  unfold part
  rw [ByteArray.data_extract]
  simp [Array.toList_extract, List.extract_eq_take_drop]

/-- What stands for a byte that is not plain. -/
def escE (b : Nat) : List UInt8 :=
  if b = 34 then [92, 34] else if b = 92 then [92, 92] else if b = 10 then [92, 110] else if b = 13 then [92, 114] else if b = 9 then [92, 116] else if b = 8 then [92, 98] else if b = 12 then [92, 102] else [92, 117, 48, 48, hexS[b / 16]?.getD 0, hexS[b % 16]?.getD 0]
theorem escE_length (b : Nat) : (escE b).length ≤ 6 := by
  unfold escE
  repeat' split
  all_goals simp
/-- How far one goes at a place, and what is written there. -/
def escAt (x : ByteArray) (i : Nat) : Nat × Option (List UInt8) :=
  if h : i < x.size then
    if (x[i]'h).toNat < 128 then (if safeB (x[i]'h).toNat then (1, none) else (1, some (escE (x[i]'h).toNat)))
    else if (Lib.decodeGo (x.extract i x.size)).1 = 65533 ∧ (Lib.decodeGo (x.extract i x.size)).2 = 1 then (1, some [92, 117, 102, 102, 102, 100])
    else if (Lib.decodeGo (x.extract i x.size)).1 = 8232 then ((Lib.decodeGo (x.extract i x.size)).2, some [92, 117, 50, 48, 50, 56])
    else if (Lib.decodeGo (x.extract i x.size)).1 = 8233 then ((Lib.decodeGo (x.extract i x.size)).2, some [92, 117, 50, 48, 50, 57])
    else ((Lib.decodeGo (x.extract i x.size)).2, none)
  else (1, none)
def escL (x : ByteArray) : Nat → Nat → Nat → List UInt8
  | 0, _, _ => []
  | f + 1, st, i =>
    if i < x.size then
      match escAt x i with
      | (L, none) => escL x f st (i + L)
      | (L, some e) => part x st i ++ e ++ escL x f (i + L) (i + L)
    else part x st x.size ++ [34]
/-- The text as it is written, its quotes too. -/
def escT (x : ByteArray) : List UInt8 := 34 :: escL x (x.size + 1) 0 0

theorem decodeGo_pos (s : ByteArray) (h : ¬ s.size = 0) : 1 ≤ (Lib.decodeGo s).2 := by
  unfold Lib.decodeGo
  rw [if_neg h, Lib.decode_at]
  unfold Lib.decodeN
  repeat' split
  all_goals simp

/-- The buffer, and how much it may hold. -/
def BK (B gb k : Nat) (l : List UInt8) (w0 w : World) : Prop := BSt B gb l w0 w ∧ l.length ≤ k
theorem BK.byte {B gb k : Nat} {l : List UInt8} {w0 w : World} (h : BK B gb k l w0 w) (hk : k ≤ 2000000) (c : UInt8) :
    Calls Tryz.prog 49 #[.pointer (some ⟨gb, 0, none⟩), .int .u8 (c.toNat : Int)] w fun e w' => e = .returned .nilIface ∧ BK B gb (k + 1) (l ++ [c]) w0 w' :=
  (h.1.byte (by have := h.2; omega) c).mono fun e w' ⟨he, hb⟩ => ⟨he, hb, by rw [List.length_append]; have := h.2; simp; omega⟩
theorem BK.byteI {B gb k : Nat} {l : List UInt8} {w0 w : World} (h : BK B gb k l w0 w) (hk : k ≤ 2000000) (c : Int) (hc : 0 ≤ c ∧ c < 256) :
    Calls Tryz.prog 49 #[.pointer (some ⟨gb, 0, none⟩), .int .u8 c] w fun e w' => e = .returned .nilIface ∧ BK B gb (k + 1) (l ++ [UInt8.ofNat c.toNat]) w0 w' :=
  (h.1.byteI (by have := h.2; omega) c hc).mono fun e w' ⟨he, hb⟩ => ⟨he, hb, by rw [List.length_append]; have := h.2; simp; omega⟩
theorem BK.str {B gb k : Nat} {l : List UInt8} {w0 w : World} (h : BK B gb k l w0 w) (hk : k ≤ 2000000) (s : ByteArray) (hs : s.size ≤ 1000) :
    Calls Tryz.prog 50 #[.pointer (some ⟨gb, 0, none⟩), .string s] w fun e w' => e = .returned (.tuple #[.int .i64 s.size, .nilIface]) ∧ BK B gb (k + 1000) (l ++ s.data.toList) w0 w' :=
  (h.1.str (by have := h.2; omega) s (by omega)).mono fun e w' ⟨he, hb⟩ => ⟨he, hb, by rw [List.length_append, data_length]; have := h.2; omega⟩
theorem BK.go {B gb k : Nat} {l : List UInt8} {w0 w w' : World} (h : BK B gb k l w0 w) (hb : Below w.heap.size w w') : BK B gb k l w0 w' := ⟨h.1.go hb, h.2⟩

theorem BSt.tabs {B gb : Nat} {l l' : List UInt8} {w0 w wx : World} (h : BSt B gb l w0 w) (h' : BSt B gb l' w0 wx) (hT : Tabs w) (hB : 13 ≤ B) : Tabs wx :=
  hT.kept (fun k hk => (h'.below.block k (by omega)).trans (h.below.block k (by omega)).symm) (Nat.le_trans hB h'.size)

/-- The head of the loop. -/
structure WR (x : ByteArray) (B gb : Nat) (l0 : List UInt8) (w0 : World) (st i : Nat) (wx : World) (E : List UInt8) : Prop where
  hst : st ≤ i
  hi : i ≤ x.size
  buf : BSt B gb (l0 ++ 34 :: E) w0 wx
  len : E.length ≤ 6 * st
  rest : ∃ f, x.size - i < f ∧ E ++ escL x f st i = escL x (x.size + 1) 0 0
theorem WR.bk {x : ByteArray} {B gb : Nat} {l0 : List UInt8} {w0 wx : World} {st i : Nat} {E : List UInt8} (h : WR x B gb l0 w0 st i wx E) (hx : x.size ≤ 1000) (hl : l0.length ≤ 1000000) : BK B gb 1100000 (l0 ++ 34 :: E) w0 wx :=
  ⟨h.buf, by have := h.len; have := h.hst; have := h.hi; rw [List.length_append, List.length_cons]; omega⟩
theorem WR.plain {x : ByteArray} {B gb : Nat} {l0 : List UInt8} {w0 wx wy : World} {st i L k : Nat} {E : List UInt8} (h : WR x B gb l0 w0 st i wx E) (hlt : i < x.size) (he : escAt x i = (L, none)) (h1 : 1 ≤ L) (hL : i + L ≤ x.size) (hb : BK B gb k (l0 ++ 34 :: E) w0 wy) : WR x B gb l0 w0 st (i + L) wy E := by
  refine ⟨by have := h.hst; omega, hL, hb.1, h.len, ?_⟩
  obtain ⟨f, hf, hr⟩ := h.rest
  obtain ⟨f, rfl⟩ : ∃ g, f = g + 1 := ⟨f - 1, by omega⟩
  refine ⟨f, by omega, ?_⟩
  rw [← hr]
  conv => rhs; unfold escL
  rw [if_pos hlt, he]
theorem WR.esc {x : ByteArray} {B gb : Nat} {l0 : List UInt8} {w0 wx wy : World} {st i L k : Nat} {E e bs : List UInt8} (h : WR x B gb l0 w0 st i wx E) (hlt : i < x.size) (he : escAt x i = (L, some e)) (h1 : 1 ≤ L) (hL : i + L ≤ x.size) (h6 : e.length ≤ 6) (hb : BK B gb k bs w0 wy) (hbs : bs = l0 ++ 34 :: (E ++ part x st i ++ e)) : WR x B gb l0 w0 (i + L) (i + L) wy (E ++ part x st i ++ e) := by
  refine ⟨Nat.le_refl _, hL, by rw [← hbs]; exact hb.1, ?_, ?_⟩
  · rw [List.length_append, List.length_append, part_length x st i h.hi]
    have := h.len; have := h.hst; omega
  · obtain ⟨f, hf, hr⟩ := h.rest
    obtain ⟨f, rfl⟩ : ∃ g, f = g + 1 := ⟨f - 1, by omega⟩
    refine ⟨f, by omega, ?_⟩
    rw [← hr]
    conv => rhs; unfold escL
    rw [if_pos hlt, he]
    simp
theorem WR.fin {x : ByteArray} {B gb : Nat} {l0 : List UInt8} {w0 wx wy : World} {st k : Nat} {E bs : List UInt8} (h : WR x B gb l0 w0 st x.size wx E) (hb : BK B gb k bs w0 wy) (hbs : bs = l0 ++ 34 :: (E ++ (part x st x.size ++ [34]))) : BSt B gb (l0 ++ escT x) w0 wy := by
  obtain ⟨f, hf, hr⟩ := h.rest
  obtain ⟨f, rfl⟩ : ∃ g, f = g + 1 := ⟨f - 1, by omega⟩
  have e1 : escL x (f + 1) st x.size = part x st x.size ++ [34] := by unfold escL; rw [if_neg (Nat.lt_irrefl _)]
  rw [e1] at hr
  unfold escT
  rw [← hr, ← hbs]
  exact hb.1

theorem escAt_plain {x : ByteArray} {i : Nat} (h : i < x.size) (h1 : (x[i]'h).toNat < 128) (h2 : safeB (x[i]'h).toNat = true) : escAt x i = (1, none) := by
  unfold escAt; rw [dif_pos h, if_pos h1, if_pos h2]
theorem escAt_esc {x : ByteArray} {i : Nat} (h : i < x.size) (h1 : (x[i]'h).toNat < 128) (h2 : safeB (x[i]'h).toNat = false) : escAt x i = (1, some (escE (x[i]'h).toNat)) := by
  unfold escAt; rw [dif_pos h, if_pos h1, if_neg (by simp [h2])]

set_option maxRecDepth 1000000 in
set_option maxHeartbeats 8000000 in
theorem escC (x : ByteArray) (hx : x.size ≤ 1000) : EscC x (escT x) := by
  intro B gb l0 w0 w hT hbuf hl0 hB
  have HB : Hid (BK B gb 1000000 l0 w0 w) := Lib.hid ⟨hbuf, hl0⟩
  have HBT := Lib.hid hbuf
  have HT := Lib.hid hT
  clear hT hbuf
  go_enter Tryz.func39, Tryz.ntmps39
  go_wp2_with (first | (go_at_call 49; refine (HB.out.byte (by decide) 34).mono ?_; rintro e w1 ⟨rfl, h1⟩; have HB1 := Lib.hid h1; clear h1))
  go_loopg [6, 7] x.size (fun m v6 v7 wx => Aside (∃ (st i : Nat) (E : List UInt8), m = x.size - i ∧ v6 = .int .i64 (st : Int) ∧ v7 = .int .i64 (i : Int) ∧ WR x B gb l0 w0 st i wx E))
  case atStart =>
    exact ⟨0, 0, [], rfl, rfl, rfl, ⟨by omega, by omega, HB1.out.1, by simp, ⟨x.size + 1, by omega, rfl⟩⟩⟩
  case round =>
    obtain ⟨st, i, E, hgk, rfl, rfl, hwr⟩ := hrel.out
    have hst := hwr.hst
    have hi := hwr.hi
    have hW2 := hwr.bk hx hl0
    have hset := HBT.out.tabs hwr.buf HT.out hB
    clear hrel HB1 HB
    have HW := Lib.hid hwr
    have HW2 := Lib.hid hW2
    clear hwr hW2
    rcases Nat.lt_or_eq_of_le hi with hlt | hie
    · rcases Nat.lt_or_ge (x[i]'hlt).toNat 128 with h128 | h128
      · obtain ⟨m, hget⟩ : ∃ m, (x[i]'hlt).toNat = m := ⟨_, rfl⟩
        have hP := @escAt_plain x i hlt h128
        have hE := @escAt_esc x i hlt h128
        rw [hget] at h128 hP hE
        have hh := hset.html m h128
        have hsf := hset.safe m h128
        clear hset
        by_cases hpl : safeB m = true
        · as_aux_lemma =>
          have HP := Lib.hid (hP hpl)
          clear hP hE
          rw [hpl] at hsf
          rcases Bool.eq_false_or_eq_true (htmlB m) with hq | hq
          all_goals
            rw [hq] at hh
            go_wp2
            go_roundg (x.size - (i + 1))
            case measure => omega
            case rel => exact ⟨st, i + 1, E, rfl, rfl, rfl, HW.out.plain hlt HP.out (Nat.le_refl _) hlt HW2.out⟩
        · have hps := eq_false_of_ne_true hpl
          have hhs : htmlB m = false := by unfold htmlB; rw [hps]; rfl
          have HE := Lib.hid (hE hps)
          have hm32 : m < 32 ∨ m = 34 ∨ m = 92 := by
            unfold safeB at hps
            simp only [Bool.and_eq_false_iff, decide_eq_false_iff_not, bne_eq_false_iff_eq] at hps
            omega
          clear hP hE hpl
          rw [hhs] at hh
          rw [hps] at hsf
          clear hhs hps
          by_cases hm34 : m = 34
          · subst hm34
            have hee : escE 34 = [92, 34] := by decide
            rw [hee] at HE
            clear hee
            rcases Nat.lt_or_eq_of_le hst with hf | hf
            · as_aux_lemma =>
              have hxs : (x.extract st i).size ≤ 1000 := by rw [← data_length, extract_part x st i, part_length x st i (hi)]; omega
              go_wp2_with (first | (go_at_call 49; refine Calls.mono (BK.byteI HW2.out (by decide) _ (by first | decide | omega)) ?_; rintro e w9 ⟨rfl, h9⟩; clear HW2; have HW2 := Lib.hid h9; clear h9) | (go_at_call 50; refine Calls.mono (BK.str HW2.out (by decide) _ (by first | with_reducible exact hxs | decide)) ?_; rintro e w9 ⟨rfl, h9⟩; clear HW2; have HW2 := Lib.hid h9; clear h9))
              go_roundg (x.size - (i + 1))
              case measure => omega
              case rel => exact ⟨_, _, _, rfl, rfl, rfl, HW.out.esc hlt HE.out (Nat.le_refl _) hlt (by decide) HW2.out (by rw [extract_part x st i]; simp)⟩
            · as_aux_lemma =>
              subst hf
              go_wp2_with (first | (go_at_call 49; refine Calls.mono (BK.byteI HW2.out (by decide) _ (by first | decide | omega)) ?_; rintro e w9 ⟨rfl, h9⟩; clear HW2; have HW2 := Lib.hid h9; clear h9) | (go_at_call 50; refine Calls.mono (BK.str HW2.out (by decide) _ (by first | with_reducible exact hxs | decide)) ?_; rintro e w9 ⟨rfl, h9⟩; clear HW2; have HW2 := Lib.hid h9; clear h9))
              go_roundg (x.size - (st + 1))
              case measure => omega
              case rel => exact ⟨_, _, _, rfl, rfl, rfl, HW.out.esc hlt HE.out (Nat.le_refl _) hlt (by decide) HW2.out (by rw [part_same]; simp)⟩
          by_cases hm92 : m = 92
          · subst hm92
            have hee : escE 92 = [92, 92] := by decide
            rw [hee] at HE
            clear hee
            rcases Nat.lt_or_eq_of_le hst with hf | hf
            · as_aux_lemma =>
              have hxs : (x.extract st i).size ≤ 1000 := by rw [← data_length, extract_part x st i, part_length x st i (hi)]; omega
              go_wp2_with (first | (go_at_call 49; refine Calls.mono (BK.byteI HW2.out (by decide) _ (by first | decide | omega)) ?_; rintro e w9 ⟨rfl, h9⟩; clear HW2; have HW2 := Lib.hid h9; clear h9) | (go_at_call 50; refine Calls.mono (BK.str HW2.out (by decide) _ (by first | with_reducible exact hxs | decide)) ?_; rintro e w9 ⟨rfl, h9⟩; clear HW2; have HW2 := Lib.hid h9; clear h9))
              go_roundg (x.size - (i + 1))
              case measure => omega
              case rel => exact ⟨_, _, _, rfl, rfl, rfl, HW.out.esc hlt HE.out (Nat.le_refl _) hlt (by decide) HW2.out (by rw [extract_part x st i]; simp)⟩
            · as_aux_lemma =>
              subst hf
              go_wp2_with (first | (go_at_call 49; refine Calls.mono (BK.byteI HW2.out (by decide) _ (by first | decide | omega)) ?_; rintro e w9 ⟨rfl, h9⟩; clear HW2; have HW2 := Lib.hid h9; clear h9) | (go_at_call 50; refine Calls.mono (BK.str HW2.out (by decide) _ (by first | with_reducible exact hxs | decide)) ?_; rintro e w9 ⟨rfl, h9⟩; clear HW2; have HW2 := Lib.hid h9; clear h9))
              go_roundg (x.size - (st + 1))
              case measure => omega
              case rel => exact ⟨_, _, _, rfl, rfl, rfl, HW.out.esc hlt HE.out (Nat.le_refl _) hlt (by decide) HW2.out (by rw [part_same]; simp)⟩
          by_cases hm10 : m = 10
          · subst hm10
            have hee : escE 10 = [92, 110] := by decide
            rw [hee] at HE
            clear hee
            rcases Nat.lt_or_eq_of_le hst with hf | hf
            · as_aux_lemma =>
              have hxs : (x.extract st i).size ≤ 1000 := by rw [← data_length, extract_part x st i, part_length x st i (hi)]; omega
              go_wp2_with (first | (go_at_call 49; refine Calls.mono (BK.byteI HW2.out (by decide) _ (by first | decide | omega)) ?_; rintro e w9 ⟨rfl, h9⟩; clear HW2; have HW2 := Lib.hid h9; clear h9) | (go_at_call 50; refine Calls.mono (BK.str HW2.out (by decide) _ (by first | with_reducible exact hxs | decide)) ?_; rintro e w9 ⟨rfl, h9⟩; clear HW2; have HW2 := Lib.hid h9; clear h9))
              go_roundg (x.size - (i + 1))
              case measure => omega
              case rel => exact ⟨_, _, _, rfl, rfl, rfl, HW.out.esc hlt HE.out (Nat.le_refl _) hlt (by decide) HW2.out (by rw [extract_part x st i]; simp)⟩
            · as_aux_lemma =>
              subst hf
              go_wp2_with (first | (go_at_call 49; refine Calls.mono (BK.byteI HW2.out (by decide) _ (by first | decide | omega)) ?_; rintro e w9 ⟨rfl, h9⟩; clear HW2; have HW2 := Lib.hid h9; clear h9) | (go_at_call 50; refine Calls.mono (BK.str HW2.out (by decide) _ (by first | with_reducible exact hxs | decide)) ?_; rintro e w9 ⟨rfl, h9⟩; clear HW2; have HW2 := Lib.hid h9; clear h9))
              go_roundg (x.size - (st + 1))
              case measure => omega
              case rel => exact ⟨_, _, _, rfl, rfl, rfl, HW.out.esc hlt HE.out (Nat.le_refl _) hlt (by decide) HW2.out (by rw [part_same]; simp)⟩
          by_cases hm13 : m = 13
          · subst hm13
            have hee : escE 13 = [92, 114] := by decide
            rw [hee] at HE
            clear hee
            rcases Nat.lt_or_eq_of_le hst with hf | hf
            · as_aux_lemma =>
              have hxs : (x.extract st i).size ≤ 1000 := by rw [← data_length, extract_part x st i, part_length x st i (hi)]; omega
              go_wp2_with (first | (go_at_call 49; refine Calls.mono (BK.byteI HW2.out (by decide) _ (by first | decide | omega)) ?_; rintro e w9 ⟨rfl, h9⟩; clear HW2; have HW2 := Lib.hid h9; clear h9) | (go_at_call 50; refine Calls.mono (BK.str HW2.out (by decide) _ (by first | with_reducible exact hxs | decide)) ?_; rintro e w9 ⟨rfl, h9⟩; clear HW2; have HW2 := Lib.hid h9; clear h9))
              go_roundg (x.size - (i + 1))
              case measure => omega
              case rel => exact ⟨_, _, _, rfl, rfl, rfl, HW.out.esc hlt HE.out (Nat.le_refl _) hlt (by decide) HW2.out (by rw [extract_part x st i]; simp)⟩
            · as_aux_lemma =>
              subst hf
              go_wp2_with (first | (go_at_call 49; refine Calls.mono (BK.byteI HW2.out (by decide) _ (by first | decide | omega)) ?_; rintro e w9 ⟨rfl, h9⟩; clear HW2; have HW2 := Lib.hid h9; clear h9) | (go_at_call 50; refine Calls.mono (BK.str HW2.out (by decide) _ (by first | with_reducible exact hxs | decide)) ?_; rintro e w9 ⟨rfl, h9⟩; clear HW2; have HW2 := Lib.hid h9; clear h9))
              go_roundg (x.size - (st + 1))
              case measure => omega
              case rel => exact ⟨_, _, _, rfl, rfl, rfl, HW.out.esc hlt HE.out (Nat.le_refl _) hlt (by decide) HW2.out (by rw [part_same]; simp)⟩
          by_cases hm9 : m = 9
          · subst hm9
            have hee : escE 9 = [92, 116] := by decide
            rw [hee] at HE
            clear hee
            rcases Nat.lt_or_eq_of_le hst with hf | hf
            · as_aux_lemma =>
              have hxs : (x.extract st i).size ≤ 1000 := by rw [← data_length, extract_part x st i, part_length x st i (hi)]; omega
              go_wp2_with (first | (go_at_call 49; refine Calls.mono (BK.byteI HW2.out (by decide) _ (by first | decide | omega)) ?_; rintro e w9 ⟨rfl, h9⟩; clear HW2; have HW2 := Lib.hid h9; clear h9) | (go_at_call 50; refine Calls.mono (BK.str HW2.out (by decide) _ (by first | with_reducible exact hxs | decide)) ?_; rintro e w9 ⟨rfl, h9⟩; clear HW2; have HW2 := Lib.hid h9; clear h9))
              go_roundg (x.size - (i + 1))
              case measure => omega
              case rel => exact ⟨_, _, _, rfl, rfl, rfl, HW.out.esc hlt HE.out (Nat.le_refl _) hlt (by decide) HW2.out (by rw [extract_part x st i]; simp)⟩
            · as_aux_lemma =>
              subst hf
              go_wp2_with (first | (go_at_call 49; refine Calls.mono (BK.byteI HW2.out (by decide) _ (by first | decide | omega)) ?_; rintro e w9 ⟨rfl, h9⟩; clear HW2; have HW2 := Lib.hid h9; clear h9) | (go_at_call 50; refine Calls.mono (BK.str HW2.out (by decide) _ (by first | with_reducible exact hxs | decide)) ?_; rintro e w9 ⟨rfl, h9⟩; clear HW2; have HW2 := Lib.hid h9; clear h9))
              go_roundg (x.size - (st + 1))
              case measure => omega
              case rel => exact ⟨_, _, _, rfl, rfl, rfl, HW.out.esc hlt HE.out (Nat.le_refl _) hlt (by decide) HW2.out (by rw [part_same]; simp)⟩
          by_cases hm8 : m = 8
          · subst hm8
            have hee : escE 8 = [92, 98] := by decide
            rw [hee] at HE
            clear hee
            rcases Nat.lt_or_eq_of_le hst with hf | hf
            · as_aux_lemma =>
              have hxs : (x.extract st i).size ≤ 1000 := by rw [← data_length, extract_part x st i, part_length x st i (hi)]; omega
              go_wp2_with (first | (go_at_call 49; refine Calls.mono (BK.byteI HW2.out (by decide) _ (by first | decide | omega)) ?_; rintro e w9 ⟨rfl, h9⟩; clear HW2; have HW2 := Lib.hid h9; clear h9) | (go_at_call 50; refine Calls.mono (BK.str HW2.out (by decide) _ (by first | with_reducible exact hxs | decide)) ?_; rintro e w9 ⟨rfl, h9⟩; clear HW2; have HW2 := Lib.hid h9; clear h9))
              go_roundg (x.size - (i + 1))
              case measure => omega
              case rel => exact ⟨_, _, _, rfl, rfl, rfl, HW.out.esc hlt HE.out (Nat.le_refl _) hlt (by decide) HW2.out (by rw [extract_part x st i]; simp)⟩
            · as_aux_lemma =>
              subst hf
              go_wp2_with (first | (go_at_call 49; refine Calls.mono (BK.byteI HW2.out (by decide) _ (by first | decide | omega)) ?_; rintro e w9 ⟨rfl, h9⟩; clear HW2; have HW2 := Lib.hid h9; clear h9) | (go_at_call 50; refine Calls.mono (BK.str HW2.out (by decide) _ (by first | with_reducible exact hxs | decide)) ?_; rintro e w9 ⟨rfl, h9⟩; clear HW2; have HW2 := Lib.hid h9; clear h9))
              go_roundg (x.size - (st + 1))
              case measure => omega
              case rel => exact ⟨_, _, _, rfl, rfl, rfl, HW.out.esc hlt HE.out (Nat.le_refl _) hlt (by decide) HW2.out (by rw [part_same]; simp)⟩
          by_cases hm12 : m = 12
          · subst hm12
            have hee : escE 12 = [92, 102] := by decide
            rw [hee] at HE
            clear hee
            rcases Nat.lt_or_eq_of_le hst with hf | hf
            · as_aux_lemma =>
              have hxs : (x.extract st i).size ≤ 1000 := by rw [← data_length, extract_part x st i, part_length x st i (hi)]; omega
              go_wp2_with (first | (go_at_call 49; refine Calls.mono (BK.byteI HW2.out (by decide) _ (by first | decide | omega)) ?_; rintro e w9 ⟨rfl, h9⟩; clear HW2; have HW2 := Lib.hid h9; clear h9) | (go_at_call 50; refine Calls.mono (BK.str HW2.out (by decide) _ (by first | with_reducible exact hxs | decide)) ?_; rintro e w9 ⟨rfl, h9⟩; clear HW2; have HW2 := Lib.hid h9; clear h9))
              go_roundg (x.size - (i + 1))
              case measure => omega
              case rel => exact ⟨_, _, _, rfl, rfl, rfl, HW.out.esc hlt HE.out (Nat.le_refl _) hlt (by decide) HW2.out (by rw [extract_part x st i]; simp)⟩
            · as_aux_lemma =>
              subst hf
              go_wp2_with (first | (go_at_call 49; refine Calls.mono (BK.byteI HW2.out (by decide) _ (by first | decide | omega)) ?_; rintro e w9 ⟨rfl, h9⟩; clear HW2; have HW2 := Lib.hid h9; clear h9) | (go_at_call 50; refine Calls.mono (BK.str HW2.out (by decide) _ (by first | with_reducible exact hxs | decide)) ?_; rintro e w9 ⟨rfl, h9⟩; clear HW2; have HW2 := Lib.hid h9; clear h9))
              go_roundg (x.size - (st + 1))
              case measure => omega
              case rel => exact ⟨_, _, _, rfl, rfl, rfl, HW.out.esc hlt HE.out (Nat.le_refl _) hlt (by decide) HW2.out (by rw [part_same]; simp)⟩
          have hee : escE m = [92, 117, 48, 48, hexS[m / 16]?.getD 0, hexS[m % 16]?.getD 0] := by unfold escE; simp [hm34, hm92, hm10, hm13, hm9, hm8, hm12]
          rw [hee] at HE
          clear hee
          have n92 : ((m : Int) == 92) = false := by simp only [beq_eq_false_iff_ne, ne_eq]; omega
          have n34 : ((m : Int) == 34) = false := by simp only [beq_eq_false_iff_ne, ne_eq]; omega
          have n10 : ((m : Int) == 10) = false := by simp only [beq_eq_false_iff_ne, ne_eq]; omega
          have n13 : ((m : Int) == 13) = false := by simp only [beq_eq_false_iff_ne, ne_eq]; omega
          have n9 : ((m : Int) == 9) = false := by simp only [beq_eq_false_iff_ne, ne_eq]; omega
          have n8 : ((m : Int) == 8) = false := by simp only [beq_eq_false_iff_ne, ne_eq]; omega
          have n12 : ((m : Int) == 12) = false := by simp only [beq_eq_false_iff_ne, ne_eq]; omega
          have h15 : bits .and .u8 (m : Int) 15 = ((m % 16 : Nat) : Int) := by rw [u8_and15 (x := (m : Int)) (by omega) (by omega)]; omega
          have hq1 : m / 16 < 16 := by omega
          have hq2 : m % 16 < 16 := by omega
          have hg1 : hexS[m / 16]?.getD 0 = hexS[m / 16]'hq1 := by rw [show hexS[m / 16]? = some (hexS[m / 16]'hq1) from getElem?_pos hexS (m / 16) hq1]; rfl
          have hg2 : hexS[m % 16]?.getD 0 = hexS[m % 16]'hq2 := by rw [show hexS[m % 16]? = some (hexS[m % 16]'hq2) from getElem?_pos hexS (m % 16) hq2]; rfl
          rw [hg1, hg2] at HE
          clear hg1 hg2
          rcases Nat.lt_or_eq_of_le hst with hf | hf
          · as_aux_lemma =>
            have hxs : (x.extract st i).size ≤ 1000 := by rw [← data_length, extract_part x st i, part_length x st i (hi)]; omega
            go_wp2_with (first | (go_at_call 49; refine Calls.mono (BK.byteI HW2.out (by decide) _ (by first | decide | omega)) ?_; rintro e w9 ⟨rfl, h9⟩; clear HW2; have HW2 := Lib.hid h9; clear h9) | (go_at_call 49; refine Calls.mono (BK.byte HW2.out (by decide) _) ?_; rintro e w9 ⟨rfl, h9⟩; clear HW2; have HW2 := Lib.hid h9; clear h9) | (go_at_call 50; refine Calls.mono (BK.str HW2.out (by decide) _ (by first | with_reducible exact hxs | decide)) ?_; rintro e w9 ⟨rfl, h9⟩; clear HW2; have HW2 := Lib.hid h9; clear h9))
            go_roundg (x.size - (i + 1))
            case measure => omega
            case rel => exact ⟨_, _, _, rfl, rfl, rfl, HW.out.esc hlt HE.out (Nat.le_refl _) hlt (by simp) HW2.out (by rw [extract_part x st i]; simp [hexS])⟩
          · as_aux_lemma =>
            subst hf
            go_wp2_with (first | (go_at_call 49; refine Calls.mono (BK.byteI HW2.out (by decide) _ (by first | decide | omega)) ?_; rintro e w9 ⟨rfl, h9⟩; clear HW2; have HW2 := Lib.hid h9; clear h9) | (go_at_call 49; refine Calls.mono (BK.byte HW2.out (by decide) _) ?_; rintro e w9 ⟨rfl, h9⟩; clear HW2; have HW2 := Lib.hid h9; clear h9) | (go_at_call 50; refine Calls.mono (BK.str HW2.out (by decide) _ (by first | with_reducible exact hxs | decide)) ?_; rintro e w9 ⟨rfl, h9⟩; clear HW2; have HW2 := Lib.hid h9; clear h9))
            go_roundg (x.size - (st + 1))
            case measure => omega
            case rel => exact ⟨_, _, _, rfl, rfl, rfl, HW.out.esc hlt HE.out (Nat.le_refl _) hlt (by simp) HW2.out (by rw [part_same]; simp [hexS])⟩
      · have hset2 := hset.utf
        have HTB := Lib.hid hset2
        have hne : ¬ (x.extract i x.size).size = 0 := by rw [← data_length, extract_part x i x.size, part_length x i x.size (Nat.le_refl _)]; omega
        have hL1 := decodeGo_pos _ hne
        have hL2 := Lib.decodeGo_le_size (x.extract i x.size)
        have hes : (x.extract i x.size).size = x.size - i := by rw [← data_length, extract_part x i x.size, part_length x i x.size (Nat.le_refl _)]
        rw [hes] at hL2
        have hA : escAt x i = (if (Lib.decodeGo (x.extract i x.size)).1 = 65533 ∧ (Lib.decodeGo (x.extract i x.size)).2 = 1 then (1, some [92, 117, 102, 102, 102, 100])
          else if (Lib.decodeGo (x.extract i x.size)).1 = 8232 then ((Lib.decodeGo (x.extract i x.size)).2, some [92, 117, 50, 48, 50, 56])
          else if (Lib.decodeGo (x.extract i x.size)).1 = 8233 then ((Lib.decodeGo (x.extract i x.size)).2, some [92, 117, 50, 48, 50, 57])
          else ((Lib.decodeGo (x.extract i x.size)).2, none)) := by
          unfold escAt; rw [dif_pos hlt, if_neg (Nat.not_lt.2 h128)]
        obtain ⟨c, hc⟩ : ∃ c, (Lib.decodeGo (x.extract i x.size)).1 = c := ⟨_, rfl⟩
        obtain ⟨L, hL⟩ : ∃ L, (Lib.decodeGo (x.extract i x.size)).2 = L := ⟨_, rfl⟩
        rw [hL] at hL1 hL2 hA
        rw [hc] at hA
        have hget : ¬ ((x[i]'hlt).toNat < 128) := Nat.not_lt.2 h128
        have hiL : i + L ≤ x.size := by omega
        clear hset hset2 hes hne h128
        by_cases hfd : c = 65533 ∧ L = 1
        · obtain ⟨rfl, rfl⟩ := hfd
          rw [if_pos ⟨rfl, rfl⟩] at hA
          have HA := Lib.hid hA
          clear hA
          rcases Nat.lt_or_eq_of_le hst with hf | hf
          · as_aux_lemma =>
            have hxs : (x.extract st i).size ≤ 1000 := by rw [← data_length, extract_part x st i, part_length x st i (hi)]; omega
            go_wp2_with (first | (go_at_call 49; refine Calls.mono (BK.byteI HW2.out (by decide) _ (by first | decide | omega)) ?_; rintro e w9 ⟨rfl, h9⟩; clear HW2; have HW2 := Lib.hid h9; clear h9) | (go_at_call 51; refine Calls.mono (Tryz.utf8_DecodeRuneInString _ _ HTB.out) ?_; rintro e w9 ⟨rfl, h9⟩; rw [hc, hL]; have HW3 := Lib.hid (HW2.out.go h9); clear HW2; have HW2 := HW3; clear h9 HW3) | (go_at_call 50; refine Calls.mono (BK.str HW2.out (by decide) _ (by first | with_reducible exact hxs | decide)) ?_; rintro e w9 ⟨rfl, h9⟩; clear HW2; have HW2 := Lib.hid h9; clear h9))
            go_roundg (x.size - (i + 1))
            case measure => omega
            case rel => exact ⟨_, _, _, rfl, rfl, rfl, HW.out.esc hlt HA.out (Nat.le_refl _) hlt (by decide) HW2.out (by rw [extract_part x st i]; simp)⟩
          · as_aux_lemma =>
            subst hf
            go_wp2_with (first | (go_at_call 49; refine Calls.mono (BK.byteI HW2.out (by decide) _ (by first | decide | omega)) ?_; rintro e w9 ⟨rfl, h9⟩; clear HW2; have HW2 := Lib.hid h9; clear h9) | (go_at_call 51; refine Calls.mono (Tryz.utf8_DecodeRuneInString _ _ HTB.out) ?_; rintro e w9 ⟨rfl, h9⟩; rw [hc, hL]; have HW3 := Lib.hid (HW2.out.go h9); clear HW2; have HW2 := HW3; clear h9 HW3) | (go_at_call 50; refine Calls.mono (BK.str HW2.out (by decide) _ (by first | with_reducible exact hxs | decide)) ?_; rintro e w9 ⟨rfl, h9⟩; clear HW2; have HW2 := Lib.hid h9; clear h9))
            go_roundg (x.size - (st + 1))
            case measure => omega
            case rel => exact ⟨_, _, _, rfl, rfl, rfl, HW.out.esc hlt HA.out (Nat.le_refl _) hlt (by decide) HW2.out (by rw [part_same]; simp)⟩
        rw [if_neg hfd] at hA
        by_cases h8232 : c = 8232
        · subst h8232
          rw [if_pos rfl] at hA
          have HA := Lib.hid hA
          clear hA hfd
          rcases Nat.lt_or_eq_of_le hst with hf | hf
          · as_aux_lemma =>
            have hxs : (x.extract st i).size ≤ 1000 := by rw [← data_length, extract_part x st i, part_length x st i (hi)]; omega
            go_wp2_with (first | (go_at_call 49; refine Calls.mono (BK.byteI HW2.out (by decide) _ (by first | decide | omega)) ?_; rintro e w9 ⟨rfl, h9⟩; clear HW2; have HW2 := Lib.hid h9; clear h9) | (go_at_call 49; refine Calls.mono (BK.byte HW2.out (by decide) _) ?_; rintro e w9 ⟨rfl, h9⟩; clear HW2; have HW2 := Lib.hid h9; clear h9) | (go_at_call 51; refine Calls.mono (Tryz.utf8_DecodeRuneInString _ _ HTB.out) ?_; rintro e w9 ⟨rfl, h9⟩; rw [hc, hL]; have HW3 := Lib.hid (HW2.out.go h9); clear HW2; have HW2 := HW3; clear h9 HW3) | (go_at_call 50; refine Calls.mono (BK.str HW2.out (by decide) _ (by first | with_reducible exact hxs | decide)) ?_; rintro e w9 ⟨rfl, h9⟩; clear HW2; have HW2 := Lib.hid h9; clear h9))
            go_roundg (x.size - (i + L))
            case measure => omega
            case rel => exact ⟨_, _, _, rfl, rfl, rfl, HW.out.esc hlt HA.out hL1 hiL (by decide) HW2.out (by rw [extract_part x st i]; simp; rfl)⟩
          · as_aux_lemma =>
            subst hf
            go_wp2_with (first | (go_at_call 49; refine Calls.mono (BK.byteI HW2.out (by decide) _ (by first | decide | omega)) ?_; rintro e w9 ⟨rfl, h9⟩; clear HW2; have HW2 := Lib.hid h9; clear h9) | (go_at_call 49; refine Calls.mono (BK.byte HW2.out (by decide) _) ?_; rintro e w9 ⟨rfl, h9⟩; clear HW2; have HW2 := Lib.hid h9; clear h9) | (go_at_call 51; refine Calls.mono (Tryz.utf8_DecodeRuneInString _ _ HTB.out) ?_; rintro e w9 ⟨rfl, h9⟩; rw [hc, hL]; have HW3 := Lib.hid (HW2.out.go h9); clear HW2; have HW2 := HW3; clear h9 HW3) | (go_at_call 50; refine Calls.mono (BK.str HW2.out (by decide) _ (by first | with_reducible exact hxs | decide)) ?_; rintro e w9 ⟨rfl, h9⟩; clear HW2; have HW2 := Lib.hid h9; clear h9))
            go_roundg (x.size - (st + L))
            case measure => omega
            case rel => exact ⟨_, _, _, rfl, rfl, rfl, HW.out.esc hlt HA.out hL1 hiL (by decide) HW2.out (by rw [part_same]; simp; rfl)⟩
        rw [if_neg h8232] at hA
        by_cases h8233 : c = 8233
        · subst h8233
          rw [if_pos rfl] at hA
          have HA := Lib.hid hA
          clear hA hfd
          rcases Nat.lt_or_eq_of_le hst with hf | hf
          · as_aux_lemma =>
            have hxs : (x.extract st i).size ≤ 1000 := by rw [← data_length, extract_part x st i, part_length x st i (hi)]; omega
            go_wp2_with (first | (go_at_call 49; refine Calls.mono (BK.byteI HW2.out (by decide) _ (by first | decide | omega)) ?_; rintro e w9 ⟨rfl, h9⟩; clear HW2; have HW2 := Lib.hid h9; clear h9) | (go_at_call 49; refine Calls.mono (BK.byte HW2.out (by decide) _) ?_; rintro e w9 ⟨rfl, h9⟩; clear HW2; have HW2 := Lib.hid h9; clear h9) | (go_at_call 51; refine Calls.mono (Tryz.utf8_DecodeRuneInString _ _ HTB.out) ?_; rintro e w9 ⟨rfl, h9⟩; rw [hc, hL]; have HW3 := Lib.hid (HW2.out.go h9); clear HW2; have HW2 := HW3; clear h9 HW3) | (go_at_call 50; refine Calls.mono (BK.str HW2.out (by decide) _ (by first | with_reducible exact hxs | decide)) ?_; rintro e w9 ⟨rfl, h9⟩; clear HW2; have HW2 := Lib.hid h9; clear h9))
            go_roundg (x.size - (i + L))
            case measure => omega
            case rel => exact ⟨_, _, _, rfl, rfl, rfl, HW.out.esc hlt HA.out hL1 hiL (by decide) HW2.out (by rw [extract_part x st i]; simp; rfl)⟩
          · as_aux_lemma =>
            subst hf
            go_wp2_with (first | (go_at_call 49; refine Calls.mono (BK.byteI HW2.out (by decide) _ (by first | decide | omega)) ?_; rintro e w9 ⟨rfl, h9⟩; clear HW2; have HW2 := Lib.hid h9; clear h9) | (go_at_call 49; refine Calls.mono (BK.byte HW2.out (by decide) _) ?_; rintro e w9 ⟨rfl, h9⟩; clear HW2; have HW2 := Lib.hid h9; clear h9) | (go_at_call 51; refine Calls.mono (Tryz.utf8_DecodeRuneInString _ _ HTB.out) ?_; rintro e w9 ⟨rfl, h9⟩; rw [hc, hL]; have HW3 := Lib.hid (HW2.out.go h9); clear HW2; have HW2 := HW3; clear h9 HW3) | (go_at_call 50; refine Calls.mono (BK.str HW2.out (by decide) _ (by first | with_reducible exact hxs | decide)) ?_; rintro e w9 ⟨rfl, h9⟩; clear HW2; have HW2 := Lib.hid h9; clear h9))
            go_roundg (x.size - (st + L))
            case measure => omega
            case rel => exact ⟨_, _, _, rfl, rfl, rfl, HW.out.esc hlt HA.out hL1 hiL (by decide) HW2.out (by rw [part_same]; simp; rfl)⟩
        rw [if_neg h8233] at hA
        have HA := Lib.hid hA
        clear hA
        have n28 : ((c : Int) == 8232) = false := by simp only [beq_eq_false_iff_ne, ne_eq]; omega
        have n29 : ((c : Int) == 8233) = false := by simp only [beq_eq_false_iff_ne, ne_eq]; omega
        by_cases hf5 : c = 65533
        · as_aux_lemma =>
          have n1 : ((L : Int) == 1) = false := by simp only [beq_eq_false_iff_ne, ne_eq]; omega
          subst hf5
          clear hfd
          go_wp2_with (first | (go_at_call 51; refine Calls.mono (Tryz.utf8_DecodeRuneInString _ _ HTB.out) ?_; rintro e w9 ⟨rfl, h9⟩; rw [hc, hL]; have HW3 := Lib.hid (HW2.out.go h9); clear HW2; have HW2 := HW3; clear h9 HW3))
          go_roundg (x.size - (i + L))
          case measure => omega
          case rel => exact ⟨_, _, _, rfl, rfl, rfl, HW.out.plain hlt HA.out hL1 hiL HW2.out⟩
        · as_aux_lemma =>
          have n5 : ((c : Int) == 65533) = false := by simp only [beq_eq_false_iff_ne, ne_eq]; omega
          clear hfd hf5
          go_wp2_with (first | (go_at_call 51; refine Calls.mono (Tryz.utf8_DecodeRuneInString _ _ HTB.out) ?_; rintro e w9 ⟨rfl, h9⟩; rw [hc, hL]; have HW3 := Lib.hid (HW2.out.go h9); clear HW2; have HW2 := HW3; clear h9 HW3))
          go_roundg (x.size - (i + L))
          case measure => omega
          case rel => exact ⟨_, _, _, rfl, rfl, rfl, HW.out.plain hlt HA.out hL1 hiL HW2.out⟩
    · subst hie
      clear hset
      by_cases hlt : st < x.size
      · as_aux_lemma =>
        have hxs : (x.extract st x.size).size ≤ 1000 := by rw [← data_length, extract_part x st x.size, part_length x st x.size (Nat.le_refl _)]; omega
        go_wp2_with (first | (go_at_call 49; refine Calls.mono (BK.byteI HW2.out (by decide) _ (by first | decide | omega)) ?_; rintro e w9 ⟨rfl, h9⟩; clear HW2; have HW2 := Lib.hid h9; clear h9) | (go_at_call 50; refine Calls.mono (BK.str HW2.out (by decide) _ (by first | with_reducible exact hxs | decide)) ?_; rintro e w9 ⟨rfl, h9⟩; clear HW2; have HW2 := Lib.hid h9; clear h9))
        go_end0
        exact ⟨rfl, HW.out.fin HW2.out (by rw [extract_part x st x.size]; simp)⟩
      · as_aux_lemma =>
        have hse : st = x.size := by omega
        subst hse
        go_wp2_with (first | (go_at_call 49; refine Calls.mono (BK.byteI HW2.out (by decide) _ (by first | decide | omega)) ?_; rintro e w9 ⟨rfl, h9⟩; clear HW2; have HW2 := Lib.hid h9; clear h9))
        go_end0
        exact ⟨rfl, HW.out.fin HW2.out (by rw [part_same]; simp)⟩
end Go.Proofs.YtpkfdbhpmhahaaaGreatDoor
