/- What DecodeRuneInString gives at a character; which bytes stand for themselves: plain. -/
import Derived.Test.YtdabllkphibfmaaGreatDoorTxt
import Derived.Test.YtdabllkphibfmaaGreatDoorShelf
import Derived.Lib.DecodeN
namespace Go.Proofs.YtdabllkphibfmaaGreatDoor
open Go Go.RowKit PFnExtStrings Go.Proofs.YtdabllkphibfmaaGreatDoorW.PrintWords

/-- The bytes of a character, as numbers. -/
theorem runeB_bytes (m : Nat) : (runeB m).map (fun b => (b.toNat : Int)) = Lib.encodeRuneZ m := by
  unfold runeB Lib.encodeRune
  rw [List.map_map]
  conv => rhs; rw [← List.map_id (Lib.encodeRuneZ m)]
  apply List.map_congr_left
  intro a ha
  have := Lib.encodeRuneZ_byte m a ha
  simp only [Function.comp, id_eq]
  rw [Nat.toUInt8_eq, UInt8.toNat_ofNat']
  omega

theorem get_byte (x : ByteArray) (j : Nat) (a : UInt8) (h : x.data.toList[j]? = some a) : x.get! j = a := by
  obtain ⟨hj, h2⟩ := List.getElem?_eq_some_iff.1 h
  rw [Array.length_toList] at hj
  have : x.get! j = x.data[j]! := rfl
  rw [this, getElem!_pos x.data j hj]
  simpa using h2

theorem len_2 {α : Type} (l : List α) (h : l.length = 2) : ∃ a b, l = [a, b] := by
  match l, h with
  | [a, b], _ => exact ⟨a, b, rfl⟩
theorem len_3 {α : Type} (l : List α) (h : l.length = 3) : ∃ a b c, l = [a, b, c] := by
  match l, h with
  | [a, b, c], _ => exact ⟨a, b, c, rfl⟩
theorem len_4 {α : Type} (l : List α) (h : l.length = 4) : ∃ a b c d, l = [a, b, c, d] := by
  match l, h with
  | [a, b, c, d], _ => exact ⟨a, b, c, d, rfl⟩
theorem dec_2 (m n b0 b1 b2 b3 : Nat) (hn : 2 ≤ n) (h128 : 128 ≤ m) (h2 : m < 2048) (e0 : b0 = 192 + m / 64) (e1 : b1 = 128 + m % 64) : Lib.decodeN n b0 b1 b2 b3 = (m, 2) := by
  have h : b0 % 32 * 64 + b1 % 64 = m := by omega
  unfold Lib.decodeN
  rw [if_neg (by omega), if_pos (by omega), h, if_pos (by omega)]
theorem dec_3 (m n b0 b1 b2 b3 : Nat) (hm : m < 55296 ∨ (57344 ≤ m ∧ m < 1114112)) (hn : 3 ≤ n) (h128 : 2048 ≤ m) (h2 : m < 65536) (e0 : b0 = 224 + m / 4096) (e1 : b1 = 128 + m / 64 % 64) (e2 : b2 = 128 + m % 64) : Lib.decodeN n b0 b1 b2 b3 = (m, 3) := by
  have h : b0 % 16 * 4096 + b1 % 64 * 64 + b2 % 64 = m := by omega
  unfold Lib.decodeN
  rw [if_neg (by omega), if_neg (by omega), if_pos (by omega), h, if_pos (by omega)]
theorem dec_4 (m n b0 b1 b2 b3 : Nat) (hn : 4 ≤ n) (h128 : 65536 ≤ m) (h2 : m < 1114112) (e0 : b0 = 240 + m / 262144) (e1 : b1 = 128 + m / 4096 % 64) (e2 : b2 = 128 + m / 64 % 64) (e3 : b3 = 128 + m % 64) : Lib.decodeN n b0 b1 b2 b3 = (m, 4) := by
  have h : b0 % 8 * 262144 + b1 % 64 * 4096 + b2 % 64 * 64 + b3 % 64 = m := by omega
  unfold Lib.decodeN
  rw [if_neg (by omega), if_neg (by omega), if_neg (by omega), if_pos (by omega), h, if_pos (by omega)]

/-- A character is decoded as itself. -/
theorem decode_is (x : ByteArray) (i m : Nat) (hm : m < 55296 ∨ (57344 ≤ m ∧ m < 1114112)) (h128 : 128 ≤ m) (ht : (x.data.toList.drop i).take (runeB m).length = runeB m) : Utf8.decode x i = (m, (runeB m).length) := by
  rw [Lib.decode_at]
  have hb := runeB_bytes m
  have hg : ∀ j b, (runeB m)[j]? = some b → x.get! (i + j) = b := by
    intro j b hj
    apply get_byte
    rw [← hj, ← ht, List.getElem?_take, List.getElem?_drop]
    rw [if_pos (List.getElem?_eq_some_iff.1 hj).1]
  have hsz : i + (runeB m).length ≤ x.size := by
    have h1 := congrArg List.length ht
    rw [List.length_take, List.length_drop, data_length] at h1
    have := (runeB_len m).1
    omega
  by_cases h2 : m < 2048
  · rw [Lib.encodeRuneZ_two (by omega) (by omega)] at hb
    obtain ⟨a, b, hr⟩ := len_2 (runeB m) (by have := congrArg List.length hb; simpa using this)
    rw [hr] at hb hg hsz ⊢
    simp only [List.map_cons, List.map_nil, List.cons.injEq, and_true] at hb
    have g0 := hg 0 a rfl
    have g1 := hg 1 b rfl
    simp only [Nat.add_zero] at g0
    simp only [List.length_cons, List.length_nil, Nat.zero_add, Nat.reduceAdd] at hsz
    rw [g0, g1]
    clear hg ht g0 g1
    exact dec_2 m (x.size - i) _ _ _ _  (by omega) (by omega) (by omega) (by omega) (by omega)
  by_cases h3 : m < 65536
  · rw [Lib.encodeRuneZ_three (by omega)] at hb
    obtain ⟨a, b, c, hr⟩ := len_3 (runeB m) (by have := congrArg List.length hb; simpa using this)
    rw [hr] at hb hg hsz ⊢
    simp only [List.map_cons, List.map_nil, List.cons.injEq, and_true] at hb
    have g0 := hg 0 a rfl
    have g1 := hg 1 b rfl
    have g2 := hg 2 c rfl
    simp only [Nat.add_zero] at g0
    simp only [List.length_cons, List.length_nil, Nat.zero_add, Nat.reduceAdd] at hsz
    rw [g0, g1, g2]
    clear hg ht g0 g1 g2
    exact dec_3 m (x.size - i) _ _ _ _ hm (by omega) (by omega) (by omega) (by omega) (by omega) (by omega)
  · rw [Lib.encodeRuneZ_four (by omega) (by omega)] at hb
    obtain ⟨a, b, c, d, hr⟩ := len_4 (runeB m) (by have := congrArg List.length hb; simpa using this)
    rw [hr] at hb hg hsz ⊢
    simp only [List.map_cons, List.map_nil, List.cons.injEq, and_true] at hb
    have g0 := hg 0 a rfl
    have g1 := hg 1 b rfl
    have g2 := hg 2 c rfl
    have g3 := hg 3 d rfl
    simp only [Nat.add_zero] at g0
    simp only [List.length_cons, List.length_nil, Nat.zero_add, Nat.reduceAdd] at hsz
    rw [g0, g1, g2, g3]
    clear hg ht g0 g1 g2 g3
    exact dec_4 m (x.size - i) _ _ _ _ (by omega) (by omega) (by omega) (by omega) (by omega) (by omega) (by omega)

/-- Which bytes below 128 stand for themselves. -/
def safeB (b : Nat) : Bool := decide (32 ≤ b) && b != 34 && b != 92
def htmlB (b : Nat) : Bool := safeB b && b != 38 && b != 60 && b != 62
def plainB (esc : Bool) (b : Nat) : Bool := htmlB b || (!esc && safeB b)

theorem plainB_ok {esc : Bool} {b : Nat} (h : plainB esc b = true) : 32 ≤ b ∧ b ≠ 34 ∧ b ≠ 92 := by
  have : safeB b = true := by
    unfold plainB htmlB at h
    simp only [Bool.or_eq_true, Bool.and_eq_true] at h
    rcases h with h | h
    · exact h.1.1.1
    · exact h.2
  simpa [safeB, and_assoc] using this

/-- The part of a text from a up to b. -/
def part (x : ByteArray) (a b : Nat) : List UInt8 := (x.data.toList.drop a).take (b - a)

theorem part_same (x : ByteArray) (a : Nat) : part x a a = [] := by simp [part]
theorem take_part (x : ByteArray) (a b : Nat) (h : a ≤ b) : x.data.toList.take a ++ part x a b = x.data.toList.take b := by
  unfold part
  rw [show b = a + (b - a) from by omega, List.take_add]
  simp
theorem part_more (x : ByteArray) (a i : Nat) (h : a ≤ i) (l : List UInt8) (ht : (x.data.toList.drop i).take l.length = l) : part x a (i + l.length) = part x a i ++ l := by
  unfold part
  rw [show i + l.length - a = (i - a) + l.length from by omega, List.take_add, List.drop_drop, show a + (i - a) = i from by omega, ht]
theorem take_more (x : ByteArray) (i : Nat) (l : List UInt8) (ht : (x.data.toList.drop i).take l.length = l) : x.data.toList.take (i + l.length) = x.data.toList.take i ++ l := by
  rw [List.take_add, ht]
theorem part_length (x : ByteArray) (a b : Nat) (hb : b ≤ x.size) : (part x a b).length = b - a := by
  unfold part
  rw [List.length_take, List.length_drop, data_length]
  omega
theorem extract_part (x : ByteArray) (a b : Nat) (h : a ≤ b) : (x.extract a b).data.toList = part x a b := by
  have := extract_list x a (b - a)
  rw [show a + (b - a) = b from by omega] at this
  exact this

/-- The hexadecimal digits. -/
theorem hexLow (d : Nat) (h : d < 16) : hexv (UInt8.ofNat (bt (⟨#[48, 49, 50, 51, 52, 53, 54, 55, 56, 57, 97, 98, 99, 100, 101, 102]⟩ : ByteArray) (d : Int)).toNat) = some d := hexL ⟨d, h⟩

end Go.Proofs.YtdabllkphibfmaaGreatDoor
