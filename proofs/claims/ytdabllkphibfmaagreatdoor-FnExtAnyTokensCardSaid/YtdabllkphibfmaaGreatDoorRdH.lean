/- ExtNumber of the reference, walked. -/
import Derived.Test.YtdabllkphibfmaaGreatDoorRdG
namespace Go.Proofs.YtdabllkphibfmaaGreatDoor
open Go Go.RowKit
set_option linter.unusedSimpArgs false
set_option linter.unusedVariables false

theorem num_none {o : Option TV} (ho : o = none) {B : Nat} {w w' : World} (h : Below B w w') : NumPost o B w (.returned (.tuple #[valV 0 0 0, .bool false])) w' := by
  subst ho
  exact ⟨0, 0, 0, false, rfl, rfl, h⟩

theorem num_start (s : ByteArray) (w : World) : NumW w.heap.size s w 0 (((w.alloc (.cells #[.string s] 9)).alloc (.cells zeroVal 82)).alloc (.cells #[.int .i64 0] 3)) := by
  have e1 : w.heap.size + 1 = (w.alloc (.cells #[.string s] 9)).heap.size := by simp
  have e2 : w.heap.size + 1 + 1 = ((w.alloc (.cells #[.string s] 9)).alloc (.cells zeroVal 82)).heap.size := by simp
  refine ⟨?_, ?_, ?_, (((Below.refl _ w).alloc (Nat.le_refl _) _).alloc (by simp) _).alloc (by simp; omega) _, Nat.zero_le _⟩
  · rw [Below.heap_alloc _ _ _ (by simp; omega), Below.heap_alloc _ _ _ (by simp)]; exact heap_alloc_new _ _
  · rw [Below.heap_alloc _ _ _ (by simp), e1]; exact heap_alloc_new _ _
  · rw [e2]; exact heap_alloc_new _ _

theorem sgn_of (s : ByteArray) : ∃ (i0 : Nat) (sgb : Bool), SgnAt s i0 ∧ i0 = (if sgb then 1 else 0) ∧ (sgb = true → ∃ h : 0 < s.size, s[0]'h = 45) ∧ (sgb = false → s.size = 0 ∨ ∃ h : 0 < s.size, s[0]'h ≠ 45) := by
  by_cases h0 : 0 < s.size
  · have hd := str_drop s 0 h0
    rw [List.drop_zero] at hd
    by_cases h45 : s[0]'h0 = 45
    · refine ⟨1, true, ⟨?_, .inl ⟨rfl, h0, h45⟩, h0⟩, rfl, fun _ => ⟨h0, h45⟩, fun h => by cases h⟩
      rw [hd, h45]
      simp [exNum]
    · refine ⟨0, false, ⟨?_, .inr rfl, Nat.zero_le _⟩, rfl, (fun h => by cases h), fun _ => .inr ⟨h0, h45⟩⟩
      rw [List.drop_zero, hd]
      simp [exNum, h45]
  · refine ⟨0, false, ⟨?_, .inr rfl, Nat.zero_le _⟩, rfl, (fun h => by cases h), fun _ => .inl (by omega)⟩
    have : s.data.toList = [] := by
      have := str_drop_len s 0
      rw [List.drop_zero] at this
      exact List.eq_nil_of_length_eq_zero (by omega)
    rw [this]
    rfl

/-- The byte at i, if there is one. -/
def headIs (s : ByteArray) (i : Nat) (k : UInt8) : Bool := match s.data.toList.drop i with | [] => false | c :: _ => c == k

theorem headIs_lt {s : ByteArray} {i : Nat} (h : i < s.size) (k : UInt8) : headIs s i k = (s[i]'h == k) := by
  unfold headIs
  rw [str_drop s i h]
theorem headIs_ge {s : ByteArray} {i : Nat} (h : ¬ i < s.size) (k : UInt8) : headIs s i k = false := by
  unfold headIs
  rw [List.drop_of_length_le (by show s.size ≤ i; omega)]

theorem byte_key (c k : UInt8) : ((c.toNat : Int) == (k.toNat : Int)) = (c == k) := by
  rw [Bool.eq_iff_iff]
  simp only [beq_iff_eq]
  constructor
  · intro h
    exact UInt8.toNat_inj.1 (by omega)
  · rintro rfl; rfl

/-- After the digits of the integer. -/
theorem int_bad {s : ByteArray} {i j : Nat} (hj : j ≤ s.size) (hij : i ≤ j) (h : s.data.toList.drop j = (s.data.toList.drop i).dropWhile isDig) (hb : j = i ∨ (headIs s i 48 = true ∧ i + 1 < j)) : exInt (s.data.toList.drop i) = none := by
  rcases hb with hb | ⟨h1, h2⟩
  · have hn := dig_none hb h
    cases hd : s.data.toList.drop i with
    | nil => rfl
    | cons c r => simp [exInt, hn c r hd]
  · obtain ⟨c, r, hd, hc, _⟩ := dig_some (by omega) hj h
    have hm := (dig_more hj hd hc h).1 h2
    have h48 : c = 48 := by
      unfold headIs at h1
      rw [hd] at h1
      simpa using h1
    rw [hd]
    simp only [exInt, hc, if_true]
    rw [if_pos ⟨h48, hm⟩]

theorem int_good {s : ByteArray} {i j : Nat} (hj : j ≤ s.size) (hij : i < j) (h : s.data.toList.drop j = (s.data.toList.drop i).dropWhile isDig) (hb : headIs s i 48 = true → j ≤ i + 1) : exInt (s.data.toList.drop i) = if exFrac (s.data.toList.drop j) then some (s.data.toList.drop j).isEmpty else none := by
  obtain ⟨c, r, hd, hc, hr⟩ := dig_some hij hj h
  have hn : ¬ (c = 48 ∧ r.takeWhile isDig ≠ []) := by
    rintro ⟨h48, hne⟩
    have := (dig_more hj hd hc h).2 hne
    have h1 : headIs s i 48 = true := by
      unfold headIs
      rw [hd, h48]
      rfl
    have := hb h1
    omega
  rw [hd]
  simp only [exInt, hc, if_true]
  rw [if_neg hn, hr]

/-- A point: digits behind it. -/
theorem frac_pt {s : ByteArray} {j : Nat} (h : headIs s j 46 = true) : exFrac (s.data.toList.drop j) = (match s.data.toList.drop (j + 1) with | [] => false | d :: r' => isDig d && exExp (r'.dropWhile isDig)) := by
  have hlt : j < s.size := by
    rcases Nat.lt_or_ge j s.size with h1 | h1
    · exact h1
    · rw [headIs_ge (by omega)] at h; cases h
  rw [headIs_lt hlt] at h
  rw [str_drop s j hlt]
  simp only [exFrac]
  rw [if_pos (by simpa using h)]
  cases s.data.toList.drop (j + 1) <;> rfl

theorem frac_none {s : ByteArray} {j k : Nat} (h : headIs s j 46 = true) (hk : k = j + 1) (hd : s.data.toList.drop k = (s.data.toList.drop (j + 1)).dropWhile isDig) : exFrac (s.data.toList.drop j) = false := by
  rw [frac_pt h]
  have hn := dig_none hk hd
  cases hx : s.data.toList.drop (j + 1) with
  | nil => rfl
  | cons c r => simp [hn c r hx]

theorem frac_some {s : ByteArray} {j k : Nat} (h : headIs s j 46 = true) (hk : j + 1 < k) (hks : k ≤ s.size) (hd : s.data.toList.drop k = (s.data.toList.drop (j + 1)).dropWhile isDig) : exFrac (s.data.toList.drop j) = exExp (s.data.toList.drop k) := by
  rw [frac_pt h]
  obtain ⟨c, r, hx, hc, hr⟩ := dig_some hk hks hd
  rw [hx]
  simp [hc, hr]

theorem frac_else {s : ByteArray} {j : Nat} (h : headIs s j 46 = false) : exFrac (s.data.toList.drop j) = exExp (s.data.toList.drop j) := by
  unfold headIs at h
  cases hx : s.data.toList.drop j with
  | nil => rfl
  | cons c r =>
    rw [hx] at h
    simp only [exFrac]
    rw [if_neg (by simpa using h)]

/-- An exponent's sign. -/
def sgnExp (s : ByteArray) (k : Nat) : Bool := headIs s k 43 || headIs s k 45

theorem exp_e {s : ByteArray} {k : Nat} (hlt : k < s.size) (he : isExp (s[k]'hlt) = true) (m : Nat) (hm : m = if sgnExp s (k + 1) then k + 1 + 1 else k + 1) (n : Nat) (hmn : m ≤ n) (hns : n ≤ s.size) (hd : s.data.toList.drop n = (s.data.toList.drop m).dropWhile isDig) : exExp (s.data.toList.drop k) = if n = m then false else (s.data.toList.drop n).isEmpty := by
  rw [str_drop s k hlt]
  simp only [exExp, he, Bool.true_and]
  by_cases h1 : k + 1 < s.size
  · have hd1 := str_drop s (k + 1) h1
    rw [hd1]
    simp only
    by_cases hs : s[k + 1]'h1 = 43 ∨ s[k + 1]'h1 = 45
    · have hb : sgnExp s (k + 1) = true := by
        unfold sgnExp
        rw [headIs_lt h1, headIs_lt h1]
        simpa using hs
      rw [if_pos hs]
      rw [hb, if_pos rfl] at hm
      by_cases hnm : n = m
      · rw [if_pos hnm]
        have hn := dig_none hnm hd
        rw [hm] at hn
        cases hx : s.data.toList.drop (k + 1 + 1) with
        | nil => rfl
        | cons c r => simp [hn c r hx]
      · rw [if_neg hnm]
        obtain ⟨c, r, hx, hc, hr⟩ := dig_some (show m < n by omega) hns hd
        rw [hm] at hx
        rw [hx]
        simp [hc, hr]
    · have hb : sgnExp s (k + 1) = false := by
        unfold sgnExp
        rw [headIs_lt h1, headIs_lt h1]
        simpa using hs
      rw [if_neg hs]
      rw [hb] at hm
      simp only [Bool.false_eq_true, if_false] at hm
      by_cases hnm : n = m
      · rw [if_pos hnm]
        have hn := dig_none hnm hd
        rw [hm] at hn
        simp [hn _ _ hd1]
      · rw [if_neg hnm]
        obtain ⟨c, r, hx, hc, hr⟩ := dig_some (show m < n by omega) hns hd
        rw [hm, hd1] at hx
        injection hx with e1 e2
        subst e1 e2
        simp [hc, hr]
  · have hx : s.data.toList.drop (k + 1) = [] := List.drop_of_length_le (by show s.size ≤ k + 1; omega)
    rw [hx]
    have hb : sgnExp s (k + 1) = false := by
      unfold sgnExp
      rw [headIs_ge h1, headIs_ge h1]
      rfl
    rw [hb] at hm
    simp only [Bool.false_eq_true, if_false] at hm
    have : n = m := by omega
    rw [if_pos this]

theorem exp_else {s : ByteArray} {k : Nat} (hlt : k < s.size) (he : isExp (s[k]'hlt) = false) : exExp (s.data.toList.drop k) = false := by
  rw [str_drop s k hlt]
  simp only [exExp, he, Bool.false_and]

end Go.Proofs.YtdabllkphibfmaaGreatDoor
