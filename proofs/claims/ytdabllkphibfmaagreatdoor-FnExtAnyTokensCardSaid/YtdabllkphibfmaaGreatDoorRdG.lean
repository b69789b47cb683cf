/- ExtNumber of the reference, by its contract. -/
import Derived.Test.YtdabllkphibfmaaGreatDoorRdF
import Derived.Deep.DeepCutAuto
import Derived.Lib.Strings
namespace Go.Proofs.YtdabllkphibfmaaGreatDoor
open Go Go.RowKit
set_option linter.unusedSimpArgs false
set_option linter.unusedVariables false

def valV (K N B : Int) : Value := .agg #[.int .i64 K, .string ⟨#[]⟩, .string ⟨#[]⟩, .int .i64 N, .int .u64 B, .int .u64 0, .slice none 0 0, .slice none 0 0]

/-- What ExtNumber's value says of a number. -/
def NumOk : Option TV → Int → Int → Int → Bool → Prop
  | some (.i32 v), K, N, _, ok => K = 16 ∧ N = v ∧ ok = true
  | some (.i64 v), K, N, _, ok => K = 18 ∧ N = v ∧ ok = true
  | some (.f64 b), K, _, B, ok => K = 1 ∧ B = b ∧ ok = true
  | some _, _, _, _, _ => False
  | none, _, _, _, ok => ok = false

def NumPost (o : Option TV) (B : Nat) (w : World) (e : Ending) (w' : World) : Prop :=
  ∃ (K N Bt : Int) (ok : Bool), e = .returned (.tuple #[valV K N Bt, .bool ok]) ∧ NumOk o K N Bt ok ∧ Below B w w'

theorem exNum_none {l : List UInt8} (pf : PF) (h : exNum l = none) : exTV pf l = none := by unfold exTV; rw [h]

theorem takeWhile_nil {l : List UInt8} : l.takeWhile isDig = [] ↔ ∀ c r, l = c :: r → isDig c = false := by
  cases l with
  | nil => simp
  | cons c r =>
    rw [List.takeWhile_cons]
    constructor
    · intro h c' r' he
      injection he with h1 _
      subst h1
      cases hd : isDig c with
      | true => rw [hd] at h; simp at h
      | false => rfl
    · intro h
      rw [h c r rfl]
      simp

theorem dropWhile_same {l : List UInt8} (h : l.dropWhile isDig = l) : ∀ c r, l = c :: r → isDig c = false := by
  rintro c r rfl
  cases hd : isDig c with
  | false => rfl
  | true =>
    rw [List.dropWhile_cons, if_pos hd] at h
    have h1 := (List.dropWhile_sublist (l := r) isDig).length_le
    rw [h] at h1
    simp at h1
    omega

theorem str_drop_len (s : ByteArray) (i : Nat) : (s.data.toList.drop i).length = s.size - i := by
  rw [List.length_drop]
  rfl

/-- No digit at i. -/
theorem dig_none {s : ByteArray} {i j : Nat} (hj : j = i) (h : s.data.toList.drop j = (s.data.toList.drop i).dropWhile isDig) : ∀ c r, s.data.toList.drop i = c :: r → isDig c = false := by
  subst hj
  exact dropWhile_same h.symm

theorem dig_some {s : ByteArray} {i j : Nat} (hij : i < j) (hjs : j ≤ s.size) (h : s.data.toList.drop j = (s.data.toList.drop i).dropWhile isDig) : ∃ c r, s.data.toList.drop i = c :: r ∧ isDig c = true ∧ s.data.toList.drop j = r.dropWhile isDig := by
  have hlt : i < s.size := by omega
  have hd := str_drop s i hlt
  refine ⟨_, _, hd, ?_, ?_⟩
  · cases hc : isDig (s[i]'hlt) with
    | true => rfl
    | false =>
      exfalso
      rw [hd, List.dropWhile_cons, if_neg (by simp [hc]), ← hd] at h
      have := congrArg List.length h
      rw [str_drop_len, str_drop_len] at this
      omega
  · rw [h, hd, List.dropWhile_cons]
    cases hc : isDig (s[i]'hlt) with
    | true => rfl
    | false =>
      exfalso
      rw [hd, List.dropWhile_cons, if_neg (by simp [hc]), ← hd] at h
      have := congrArg List.length h
      rw [str_drop_len, str_drop_len] at this
      omega

/-- More than one digit. -/
theorem dig_more {s : ByteArray} {i j : Nat} {c : UInt8} {r : List UInt8} (hjs : j ≤ s.size) (hc : s.data.toList.drop i = c :: r) (hcd : isDig c = true) (h : s.data.toList.drop j = (s.data.toList.drop i).dropWhile isDig) : (i + 1 < j ↔ r.takeWhile isDig ≠ []) := by
  have hi : i < s.size := by
    have := congrArg List.length hc
    rw [str_drop_len] at this
    simp at this
    omega
  have hr : s.data.toList.drop (i + 1) = r := by
    have := str_drop s i hi
    rw [hc] at this
    injection this with _ h2
    exact h2.symm
  rw [hc, List.dropWhile_cons, if_pos hcd] at h
  have hl := congrArg List.length h
  have h2 := congrArg List.length (List.takeWhile_append_dropWhile (p := isDig) (l := r))
  rw [List.length_append] at h2
  have h3 : r.length = s.size - (i + 1) := by rw [← hr, str_drop_len]
  rw [str_drop_len] at hl
  constructor
  · intro hlt he
    rw [he] at h2
    simp at h2
    omega
  · intro hne
    have : 0 < (r.takeWhile isDig).length := List.length_pos_iff.2 hne
    omega

/-- Behind the sign: where the number's digits begin. -/
structure SgnAt (s : ByteArray) (i : Nat) : Prop where
  ex : exNum s.data.toList = exInt (s.data.toList.drop i)
  sg : (i = 1 ∧ ∃ h : 0 < s.size, s[0]'h = 45) ∨ i = 0
  le : i ≤ s.size

theorem ex_frac_no {s : ByteArray} {j : Nat} {c : UInt8} {r : List UInt8} (h : s.data.toList.drop j = c :: r) (hc : c ≠ 46) : exFrac (s.data.toList.drop j) = exExp (s.data.toList.drop j) := by
  rw [h]
  simp only [exFrac, if_neg hc]

/-- The integer's text: a sign perhaps, and digits. -/
theorem sgn_digits {s : ByteArray} {i : Nat} (h : SgnAt s i) (hn : i < s.size) (hall : ∀ c ∈ s.data.toList.drop i, isDig c = true) : ∃ (neg : Bool) (t : ByteArray), 0 < t.size ∧ t.size ≤ s.size ∧ (∀ k (hk : k < t.size), isDig (t[k]'hk) = true) ∧ ((neg = true ∧ (∃ h0 : 0 < s.size, s[0]'h0 = 45) ∧ t = s.extract 1 s.size) ∨ (neg = false ∧ t = s)) ∧ okInt (Lib.parseIntB 64 s.data.toList) = int64Of neg t.data.toList := by
  rcases h.sg with ⟨rfl, h0, hs0⟩ | rfl
  · have ht : (s.extract 1 s.size).data.toList = s.data.toList.drop 1 := by
      rw [Lib.extract_data, List.take_of_length_le (by rw [str_drop_len]; exact Nat.le_refl _)]
    refine ⟨true, s.extract 1 s.size, by simp [ByteArray.size_extract]; omega, by simp [ByteArray.size_extract], ?_, .inl ⟨rfl, ⟨h0, hs0⟩, rfl⟩, ?_⟩
    · intro k hk
      have h1 : (s.extract 1 s.size)[k]'hk ∈ (s.extract 1 s.size).data.toList := by
        have := str_drop (s.extract 1 s.size) k hk
        exact List.mem_of_mem_drop (this ▸ List.mem_cons_self)
      rw [ht] at h1
      exact hall _ h1
    · have hd := str_drop s 0 h0
      rw [List.drop_zero, hs0] at hd
      rw [ht]
      have hd2 : s.data.toList = 45 :: s.data.toList.drop 1 := hd
      rw [hd2]
      simp only [List.drop_succ_cons, List.drop_zero]
      refine parse_minus _ ?_ hall
      intro he
      have := congrArg List.length he
      rw [str_drop_len] at this
      simp at this
      omega
  · refine ⟨false, s, hn, Nat.le_refl _, ?_, .inr ⟨rfl, rfl⟩, ?_⟩
    · intro k hk
      have := str_drop s k hk
      exact hall _ (by rw [List.drop_zero]; exact List.mem_of_mem_drop (this ▸ List.mem_cons_self))
    · refine parse_digs _ ?_ (by simpa using hall)
      intro he
      have := str_drop_len s 0
      rw [List.drop_zero, he] at this
      simp at this
      omega

end Go.Proofs.YtdabllkphibfmaaGreatDoor
