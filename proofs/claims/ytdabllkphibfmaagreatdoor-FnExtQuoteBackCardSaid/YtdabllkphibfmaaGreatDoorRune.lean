/- extRune of the spec on lists of bytes: plain, no program in sight. -/
import Derived.Test.YtdabllkphibfmaaGreatDoorPFnExtStringsx5
import Derived.Test.YtdabllkphibfmaaGreatDoorStrP
import Derived.Laws.BitsLemmas
namespace Go.Proofs.YtdabllkphibfmaaGreatDoor
open Go Go.RowKit PFnExtStrings Go.Proofs.YtdabllkphibfmaaGreatDoorW.PrintWords

theorem wraps_i64 (n : Int) (h₀ : 0 ≤ n) (h₁ : n < 2 ^ 62) : IntKind.i64.wrap n = n := by rw [IntKind.wrap_i64]; omega

theorem i64_and1023 {x : Int} (h₀ : 0 ≤ x) (h₁ : x < 4611686018427387904) : bits .and .i64 x 1023 = x % 1024 := bits_mask .i64 62 (by decide) wraps_i64 10 (by decide) x h₀ h₁
theorem i64_and31 {x : Int} (h₀ : 0 ≤ x) (h₁ : x < 4611686018427387904) : bits .and .i64 x 31 = x % 32 := bits_mask .i64 62 (by decide) wraps_i64 5 (by decide) x h₀ h₁
theorem i64_and15 {x : Int} (h₀ : 0 ≤ x) (h₁ : x < 4611686018427387904) : bits .and .i64 x 15 = x % 16 := bits_mask .i64 62 (by decide) wraps_i64 4 (by decide) x h₀ h₁
theorem i64_and7 {x : Int} (h₀ : 0 ≤ x) (h₁ : x < 4611686018427387904) : bits .and .i64 x 7 = x % 8 := bits_mask .i64 62 (by decide) wraps_i64 3 (by decide) x h₀ h₁
theorem i64_or6 {x y : Int} (hx₀ : 0 ≤ x) (hx : x % 64 = 0) (hx₁ : x < 4611686018427387904) (h₀ : 0 ≤ y) (h₁ : y < 64) : bits .or .i64 x y = x + y :=
  bits_join .i64 62 (by decide) wraps_i64 6 x y hx₀ hx hx₁ h₀ h₁ (by omega)
theorem wrap64_id {x : Int} (h₀ : -4611686018427387904 ≤ x) (h₁ : x < 4611686018427387904) : wrap64 x = x := by unfold wrap64; omega

theorem bt_list (x : ByteArray) (i : Nat) (c : UInt8) (h : x.data.toList[i]? = some c) : bt x i = c.toNat := by
  rw [← rd_bytesOf]
  simp [rd, bytesOf, List.getElem?_map, h]

/-- One more byte of a character. -/
theorem rune_more (k : Nat) (x : ByteArray) (c n least : Int) (i : Nat) (b : UInt8) (h : x.data.toList[i]? = some b) (hi : (i : Int) < n) (hi2 : i < 100) (h0 : 0 ≤ c) (h1 : c < 1048576) :
    spec_extRune.l0 (k + 1) x c n least i = if b.toNat / 64 = 2 then spec_extRune.l0 k x (c * 64 + b.toNat % 64) n least (i + 1 : Nat) else some (0, 0) := by
  have hlt : (i : Int) < x.size := by
    have := (List.getElem?_eq_some_iff.1 h).1
    rw [data_length] at this
    omega
  have hi0 : (0 : Int) ≤ i := by omega
  have hb := bt_list x i b h
  have hbl : b.toNat < 256 := b.toNat_lt
  rw [spec_extRune.l0, if_pos hi, if_pos hi0, if_pos hlt, hb]
  clear hb hlt h hi
  rw [wrap64_id (x := c * 64) (by omega) (by omega), wrap64_id (x := (i : Int) + 1) (by omega) (by omega)]
  rw [u8_and63 (x := (b.toNat : Int)) (by omega) (by omega), wrap64_id (x := (b.toNat : Int) % 64) (by omega) (by omega)]
  rw [i64_or6 (x := c * 64) (y := (b.toNat : Int) % 64) (by omega) (by omega) (by omega) (by omega) (by omega)]
  have e5 : ((i + 1 : Nat) : Int) = (i : Int) + 1 := by simp
  rw [e5]
  by_cases hq : b.toNat / 64 = 2
  · rw [if_pos hq, if_pos (by omega)]
  · rw [if_neg hq, if_neg (by omega)]

theorem rune_end (k : Nat) (x : ByteArray) (c n least i : Int) (hi : ¬ i < n) :
    spec_extRune.l0 (k + 1) x c n least i = if c < least ∨ c > 1114111 ∨ (c ≥ 55296 ∧ c < 57344) then some (0, 0) else some (n, c) := by
  rw [spec_extRune.l0, if_neg hi]
  by_cases h1 : c < least
  · rw [if_pos h1, if_pos (.inl h1)]
  · rw [if_neg h1]
    by_cases h2 : c > 1114111
    · rw [if_pos h2, if_pos (.inr (.inl h2))]
    · rw [if_neg h2]
      by_cases h3 : c ≥ 55296
      · rw [if_pos h3]
        by_cases h4 : c < 57344
        · rw [if_pos h4, if_pos (.inr (.inr ⟨h3, h4⟩))]
        · rw [if_neg h4, if_neg (by omega)]
      · rw [if_neg h3, if_neg (by omega)]

/-- What a character is. -/
def RuneIs (l : List UInt8) (r : Int × Int) : Prop :=
  r = (0, 0) ∨ ∃ m : Nat, r.2 = m ∧ (m < 55296 ∨ (57344 ≤ m ∧ m < 1114112)) ∧ r.1 = (runeB m).length ∧ l.take (runeB m).length = runeB m

theorem u8_of (a : UInt8) (x : Int) (h : x = a.toNat) : x.toNat.toUInt8 = a := by
  subst h
  simp

theorem runeB_one (m : Nat) (h : m < 128) : runeB m = [m.toUInt8] := by
  unfold runeB Lib.encodeRune
  rw [Lib.encodeRuneZ_one (by omega) (by omega)]
  simp
theorem runeB_two (m : Nat) (a b : UInt8) (h : 128 ≤ m) (h2 : m < 2048) (ha : a.toNat = 192 + m / 64) (hb : b.toNat = 128 + m % 64) : runeB m = [a, b] := by
  unfold runeB Lib.encodeRune
  rw [Lib.encodeRuneZ_two (by omega) (by omega)]
  rw [List.map_cons, List.map_cons, List.map_nil, u8_of a _ (by omega), u8_of b _ (by omega)]
theorem runeB_three (m : Nat) (a b c : UInt8) (h : 2048 ≤ m) (h2 : m < 65536) (hs : m < 55296 ∨ 57344 ≤ m) (ha : a.toNat = 224 + m / 4096) (hb : b.toNat = 128 + m / 64 % 64) (hc : c.toNat = 128 + m % 64) : runeB m = [a, b, c] := by
  unfold runeB Lib.encodeRune
  rw [Lib.encodeRuneZ_three (by omega)]
  rw [List.map_cons, List.map_cons, List.map_cons, List.map_nil, u8_of a _ (by omega), u8_of b _ (by omega), u8_of c _ (by omega)]
theorem runeB_four (m : Nat) (a b c d : UInt8) (h : 65536 ≤ m) (h2 : m < 1114112) (ha : a.toNat = 240 + m / 262144) (hb : b.toNat = 128 + m / 4096 % 64) (hc : c.toNat = 128 + m / 64 % 64) (hd : d.toNat = 128 + m % 64) : runeB m = [a, b, c, d] := by
  unfold runeB Lib.encodeRune
  rw [Lib.encodeRuneZ_four (by omega) (by omega)]
  rw [List.map_cons, List.map_cons, List.map_cons, List.map_cons, List.map_nil, u8_of a _ (by omega), u8_of b _ (by omega), u8_of c _ (by omega), u8_of d _ (by omega)]

theorem j2_short (k : Nat) (x : ByteArray) (c n least : Int) (h : (x.size : Int) < n) : spec_extRune.j2 (k + 2) x c n least = some (0, 0) := by
  rw [spec_extRune.j2]
  by_cases h0 : n = 0
  · rw [if_pos h0, spec_extRune.j3, if_pos rfl]
  · rw [if_neg h0, spec_extRune.j3, if_pos (by simpa using h)]
theorem j2_long (k : Nat) (x : ByteArray) (c n least : Int) (h : n ≤ (x.size : Int)) (h0 : n ≠ 0) : spec_extRune.j2 (k + 2) x c n least = spec_extRune.l0 k x c n least 1 := by
  rw [spec_extRune.j2, if_neg h0, spec_extRune.j3, if_neg (by simpa using h)]

theorem j2_zero (k : Nat) (x : ByteArray) (c least : Int) : spec_extRune.j2 (k + 2) x c 0 least = some (0, 0) := by
  rw [spec_extRune.j2, if_pos rfl, spec_extRune.j3, if_pos rfl]

def RuneOk (o : Option (Int × Int)) (l : List UInt8) : Prop := ∃ q, o = some q ∧ RuneIs l q
theorem RuneOk.no (l : List UInt8) : RuneOk (some (0, 0)) l := ⟨_, rfl, .inl rfl⟩
theorem RuneOk.yes (l : List UInt8) (n c : Int) (m : Nat) (hc : c = m) (hm : m < 55296 ∨ (57344 ≤ m ∧ m < 1114112)) (hn : n = (runeB m).length) (ht : l.take (runeB m).length = runeB m) : RuneOk (some (n, c)) l := ⟨_, rfl, .inr ⟨m, hc, hm, hn, ht⟩⟩

theorem two_is (k : Nat) (x : ByteArray) (a : UInt8) (r : List UInt8) (hl : x.data.toList = a :: r) (h1 : 194 ≤ a.toNat) (h2 : a.toNat < 224) : RuneOk (spec_extRune.j2 (k + 8) x ((a.toNat % 32 : Nat) : Int) 2 128) (a :: r) := by
  have hsz := data_length x
  rw [hl] at hsz
  cases r with
  | nil => rw [j2_short _ _ _ _ _ (by rw [← hsz]; simp)]; exact .no _
  | cons b r =>
    have hb : b.toNat < 256 := b.toNat_lt
    rw [j2_long _ _ _ _ _ (by rw [← hsz]; simp; omega) (by decide)]
    rw [show (1 : Int) = ((1 : Nat) : Int) from rfl, rune_more _ _ _ _ _ 1 b (by rw [hl]; rfl) (by decide) (by decide) (by omega) (by omega)]
    split
    · rename_i hb2
      rw [rune_end _ _ _ _ _ _ (by decide)]
      split
      · exact .no _
      · have e := runeB_two ((a.toNat % 32) * 64 + b.toNat % 64) a b (by omega) (by omega) (by omega) (by omega)
        exact .yes _ _ _ ((a.toNat % 32) * 64 + b.toNat % 64) (by omega) (by omega) (by rw [e]; rfl) (by rw [e]; rfl)
    · exact .no _

theorem three_is (k : Nat) (x : ByteArray) (a : UInt8) (r : List UInt8) (hl : x.data.toList = a :: r) (h1 : 224 ≤ a.toNat) (h2 : a.toNat < 240) : RuneOk (spec_extRune.j2 (k + 8) x ((a.toNat % 16 : Nat) : Int) 3 2048) (a :: r) := by
  have hsz := data_length x
  rw [hl] at hsz
  cases r with
  | nil => rw [j2_short _ _ _ _ _ (by rw [← hsz]; simp)]; exact .no _
  | cons b r =>
  cases r with
  | nil => rw [j2_short _ _ _ _ _ (by rw [← hsz]; simp)]; exact .no _
  | cons c r =>
    have hb : b.toNat < 256 := b.toNat_lt
    have hc : c.toNat < 256 := c.toNat_lt
    rw [j2_long _ _ _ _ _ (by rw [← hsz]; simp; omega) (by decide)]
    rw [show (1 : Int) = ((1 : Nat) : Int) from rfl, rune_more _ _ _ _ _ 1 b (by rw [hl]; rfl) (by decide) (by decide) (by omega) (by omega)]
    split
    · rename_i hb2
      rw [rune_more _ _ _ _ _ _ c (by rw [hl]; rfl) (by decide) (by decide) (by omega) (by omega)]
      split
      · rename_i hc2
        rw [rune_end _ _ _ _ _ _ (by decide)]
        split
        · exact .no _
        · have e := runeB_three ((a.toNat % 16) * 4096 + b.toNat % 64 * 64 + c.toNat % 64) a b c (by omega) (by omega) (by omega) (by omega) (by omega) (by omega)
          exact .yes _ _ _ ((a.toNat % 16) * 4096 + b.toNat % 64 * 64 + c.toNat % 64) (by omega) (by omega) (by rw [e]; rfl) (by rw [e]; rfl)
      · exact .no _
    · exact .no _

theorem four_is (k : Nat) (x : ByteArray) (a : UInt8) (r : List UInt8) (hl : x.data.toList = a :: r) (h1 : 240 ≤ a.toNat) (h2 : a.toNat < 245) : RuneOk (spec_extRune.j2 (k + 8) x ((a.toNat % 8 : Nat) : Int) 4 65536) (a :: r) := by
  have hsz := data_length x
  rw [hl] at hsz
  cases r with
  | nil => rw [j2_short _ _ _ _ _ (by rw [← hsz]; simp)]; exact .no _
  | cons b r =>
  cases r with
  | nil => rw [j2_short _ _ _ _ _ (by rw [← hsz]; simp)]; exact .no _
  | cons c r =>
  cases r with
  | nil => rw [j2_short _ _ _ _ _ (by rw [← hsz]; simp)]; exact .no _
  | cons d r =>
    have hb : b.toNat < 256 := b.toNat_lt
    have hc : c.toNat < 256 := c.toNat_lt
    have hd : d.toNat < 256 := d.toNat_lt
    rw [j2_long _ _ _ _ _ (by rw [← hsz]; simp; omega) (by decide)]
    rw [show (1 : Int) = ((1 : Nat) : Int) from rfl, rune_more _ _ _ _ _ 1 b (by rw [hl]; rfl) (by decide) (by decide) (by omega) (by omega)]
    split
    · rename_i hb2
      rw [rune_more _ _ _ _ _ _ c (by rw [hl]; rfl) (by decide) (by decide) (by omega) (by omega)]
      split
      · rename_i hc2
        rw [rune_more _ _ _ _ _ _ d (by rw [hl]; rfl) (by decide) (by decide) (by omega) (by omega)]
        split
        · rename_i hd2
          rw [rune_end _ _ _ _ _ _ (by decide)]
          split
          · exact .no _
          · have e := runeB_four ((a.toNat % 8) * 262144 + b.toNat % 64 * 4096 + c.toNat % 64 * 64 + d.toNat % 64) a b c d (by omega) (by omega) (by omega) (by omega) (by omega) (by omega)
            exact .yes _ _ _ ((a.toNat % 8) * 262144 + b.toNat % 64 * 4096 + c.toNat % 64 * 64 + d.toNat % 64) (by omega) (by omega) (by rw [e]; rfl) (by rw [e]; rfl)
        · exact .no _
      · exact .no _
    · exact .no _

theorem extRune_is (k : Nat) (x : ByteArray) : RuneOk (spec_extRune.f (k + 10) x) x.data.toList := by
  unfold spec_extRune.f
  rw [ByteArray.toList_eq x]
  have hsz := data_length x
  cases hl : x.data.toList with
  | nil => rw [if_pos rfl]; exact .no _
  | cons a r =>
    have ha : a.toNat < 256 := a.toNat_lt
    have hb0 : bt x 0 = a.toNat := bt_list x 0 a (by rw [hl]; rfl)
    have hs0 : (0 : Int) < x.size := by rw [← hsz, hl]; simp
    rw [if_neg (by simp), if_pos hs0, hb0, wrap64_id (by omega) (by omega)]
    clear hb0 hs0 hsz
    by_cases h1 : a.toNat < 128
    · rw [if_pos (by omega)]
      have e := runeB_one a.toNat h1
      have e2 : a.toNat.toUInt8 = a := by simp
      rw [e2] at e
      exact .yes _ _ _ a.toNat rfl (by omega) (by rw [e]; rfl) (by rw [e]; rfl)
    rw [if_neg (by omega)]
    by_cases h2 : 194 ≤ a.toNat ∧ a.toNat < 224
    · rw [if_pos (by omega), decide_eq_true (by omega), spec_extRune.j0, if_pos rfl, i64_and31 (by omega) (by omega)]
      exact two_is (k + 1) x a r hl h2.1 h2.2
    have e0 : (if (a.toNat : Int) ≥ 194 then spec_extRune.j0 (k + 10) x a.toNat 0 0 (decide ((a.toNat : Int) < 224)) else spec_extRune.j0 (k + 10) x a.toNat 0 0 false) = spec_extRune.j0 (k + 10) x a.toNat 0 0 false := by
      split
      · rw [decide_eq_false (by omega)]
      · rfl
    rw [e0, spec_extRune.j0, if_neg (by decide)]
    clear e0
    by_cases h3 : 224 ≤ a.toNat ∧ a.toNat < 240
    · rw [if_pos (by omega), decide_eq_true (by omega), spec_extRune.j1, if_pos rfl, i64_and15 (by omega) (by omega)]
      exact three_is k x a r hl h3.1 h3.2
    have e0 : (if (a.toNat : Int) ≥ 224 then spec_extRune.j1 (k + 9) x a.toNat 0 0 (decide ((a.toNat : Int) < 240)) else spec_extRune.j1 (k + 9) x a.toNat 0 0 false) = spec_extRune.j1 (k + 9) x a.toNat 0 0 false := by
      split
      · rw [decide_eq_false (by omega)]
      · rfl
    rw [e0, spec_extRune.j1, if_neg (by decide)]
    clear e0
    by_cases h4 : 240 ≤ a.toNat ∧ a.toNat < 245
    · rw [if_pos (by omega), if_pos (by omega), i64_and7 (by omega) (by omega)]
      exact four_is k x a r hl h4.1 h4.2
    · split
      · rw [if_neg (by omega), j2_zero]; exact .no _
      · rw [j2_zero]; exact .no _

end Go.Proofs.YtdabllkphibfmaaGreatDoor
