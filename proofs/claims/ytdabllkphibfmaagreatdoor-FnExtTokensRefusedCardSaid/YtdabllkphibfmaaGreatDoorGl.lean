/- Tokens as texts, and a text that is put together of them: plain laws; no program in sight but for the printed functions. -/
import Derived.Test.YtdabllkphibfmaaGreatDoorGj
import Derived.Test.YtdabllkphibfmaaGreatDoorGf
import Derived.Test.YtdabllkphibfmaaGreatDoorGk
import Derived.Test.YtdabllkphibfmaaGreatDoorPFnExtTokensx8
namespace Go.Proofs.YtdabllkphibfmaaGreatDoor
open Go Go.RowKit
set_option linter.unusedSimpArgs false
set_option linter.unusedVariables false

def dg (d : Nat) : UInt8 := UInt8.ofNat (48 + d)

def decN (n : Nat) : List UInt8 := if h : n < 10 then [dg n] else decN (n / 10) ++ [dg (n % 10)]
termination_by n
decreasing_by omega

def decB (n : Int) : List UInt8 := if n < 0 then 45 :: decN n.natAbs else decN n.natAbs

theorem dg_toNat {d : Nat} (h : d < 10) : (dg d).toNat = 48 + d := by
  unfold dg
  rw [UInt8.toNat_ofNat']
  omega
theorem dg_isDig {d : Nat} (h : d < 10) : isDig (dg d) = true := by
  unfold isDig
  rw [dg_toNat h]
  simp
  omega

theorem decN_dig (n : Nat) : ∀ c ∈ decN n, isDig c = true := by
  induction n using Nat.strongRecOn with
  | _ n ih =>
    intro c hc
    rw [decN] at hc
    split at hc
    · rename_i h
      simp only [List.mem_singleton] at hc
      rw [hc]; exact dg_isDig h
    · rename_i h
      rcases List.mem_append.1 hc with hc | hc
      · exact ih (n / 10) (by omega) c hc
      · simp only [List.mem_singleton] at hc
        rw [hc]; exact dg_isDig (by omega)

/-- The first digit. -/
theorem decN_head (n : Nat) : ∃ d r, d < 10 ∧ decN n = dg d :: r ∧ (n = 0 → d = 0 ∧ r = []) ∧ (n ≠ 0 → d ≠ 0) := by
  induction n using Nat.strongRecOn with
  | _ n ih =>
    rw [decN]
    split
    · rename_i h
      exact ⟨n, [], h, rfl, fun h => ⟨h, rfl⟩, fun h => h⟩
    · rename_i h
      obtain ⟨d, r, h1, h2, _, h4⟩ := ih (n / 10) (by omega)
      exact ⟨d, r ++ [dg (n % 10)], h1, by rw [h2]; rfl, fun h => by omega, fun _ => h4 (by omega)⟩

theorem decN_len (n : Nat) : ∀ k, n < 10 ^ k → 0 < k → (decN n).length ≤ k := by
  induction n using Nat.strongRecOn with
  | _ n ih =>
    intro k hk h0
    rw [decN]
    split
    · simp; omega
    · rename_i h
      obtain ⟨j, rfl⟩ : ∃ j, k = j + 1 := ⟨k - 1, by omega⟩
      rw [Nat.pow_succ] at hk
      have hj : 0 < j := by
        rcases Nat.eq_zero_or_pos j with h1 | h1
        · subst h1; simp at hk; omega
        · exact h1
      have := ih (n / 10) (by omega) j (by omega) hj
      simp
      omega

theorem parseUintM_snoc (M : Nat) : ∀ (l : List UInt8) (acc a : Nat) (d : Nat), d < 10 → Lib.parseUintM M acc l = .ok a → a < 1844674407370955162 → a * 10 + d ≤ M → Lib.parseUintM M acc (l ++ [dg d]) = .ok (a * 10 + d)
  | [], acc, a, d, hd, h, ha, hM => by
    simp only [Lib.parseUintM] at h
    injection h with h
    subst h
    have h1 := dg_toNat hd
    simp only [List.nil_append, Lib.parseUintM, h1]
    rw [if_pos (by omega), if_neg (by omega), if_neg (by omega)]
    congr 1
    omega
  | c :: r, acc, a, d, hd, h, ha, hM => by
    simp only [List.cons_append, Lib.parseUintM] at h ⊢
    split at h
    · rename_i h1
      rw [if_pos h1]
      split at h
      · cases h
      · rename_i h2
        rw [if_neg h2]
        split at h
        · cases h
        · rename_i h3
          rw [if_neg h3]
          exact parseUintM_snoc M r _ a d hd h ha hM
    · cases h

theorem parse_decN (n : Nat) (h : n ≤ 1000000000000000000) : Lib.parseUintM 18446744073709551615 0 (decN n) = .ok n := by
  induction n using Nat.strongRecOn with
  | _ n ih =>
    rw [decN]
    split
    · rename_i h
      have h1 := dg_toNat h
      simp only [Lib.parseUintM, h1]
      rw [if_pos (by omega), if_neg (by omega), if_neg (by omega)]
      congr 1
      omega
    · rename_i h1
      have := parseUintM_snoc 18446744073709551615 (decN (n / 10)) 0 (n / 10) (n % 10) (by omega) (ih (n / 10) (by omega) (by omega)) (by omega) (by omega)
      rw [this]
      congr 1
      omega

theorem parse_decB (n : Int) (h1 : -1000000000000000000 ≤ n) (h2 : n ≤ 1000000000000000000) : Lib.parseIntB 64 (decB n) = .ok n := by
  obtain ⟨d, r, hd, hr, _, _⟩ := decN_head n.natAbs
  have hp := parse_decN n.natAbs (by omega)
  have hu : Lib.parseUintB 64 (decN n.natAbs) = .ok n.natAbs := by
    unfold Lib.parseUintB
    rw [if_neg (by rw [hr]; simp)]
    exact hp
  unfold decB
  split
  · rename_i hn
    simp only [Lib.parseIntB]
    rw [if_pos (by decide), hu]
    simp only
    rw [if_neg (fun h => h.1 (by decide)), if_neg (by omega)]
    congr 1
    simp
    omega
  · rename_i hn
    have h43 := dg_toNat hd
    rw [hr] at hu ⊢
    simp only [Lib.parseIntB]
    rw [if_neg (by omega), hu]
    simp only
    rw [if_neg (by omega), if_neg (by omega)]
    congr 1
    rw [if_neg (by omega)]
    omega

/-- What may stand behind a number or a word. -/
def Ends (r : List UInt8) : Prop := r = [] ∨ ∃ c r', r = c :: r' ∧ isTerm c = true

theorem term_not {c : UInt8} (h : isTerm c = true) : c ≠ 46 ∧ isExp c = false ∧ isDig c = false := by
  have all : ∀ k : _root_.Fin 256, isTerm (UInt8.ofNat k.val) = true → UInt8.ofNat k.val ≠ 46 ∧ isExp (UInt8.ofNat k.val) = false ∧ isDig (UInt8.ofNat k.val) = false := by decide +kernel
  have := all ⟨c.toNat, c.toNat_lt⟩
  simp only [UInt8.ofNat_toNat] at this
  exact this h

theorem dig_not {c : UInt8} (h : isDig c = true) : c ≠ 46 ∧ isExp c = false ∧ isTerm c = false ∧ c ≠ 45 := by
  have all : ∀ k : _root_.Fin 256, isDig (UInt8.ofNat k.val) = true → UInt8.ofNat k.val ≠ 46 ∧ isExp (UInt8.ofNat k.val) = false ∧ isTerm (UInt8.ofNat k.val) = false ∧ UInt8.ofNat k.val ≠ 45 := by decide +kernel
  have := all ⟨c.toNat, c.toNat_lt⟩
  simp only [UInt8.ofNat_toNat] at this
  exact this h

theorem run_ends (acc : List UInt8) (st : Nat) (hs : st = 1 ∨ st = 2 ∨ st = 4) (r : List UInt8) (hr : Ends r) : numRun acc st r = some (acc, decide (2 < st), r) := by
  rcases hr with rfl | ⟨c, r', rfl, hc⟩
  · rcases hs with rfl | rfl | rfl <;> rfl
  · obtain ⟨h1, h2, h3⟩ := term_not hc
    rcases hs with rfl | rfl | rfl <;> simp [numRun, numStep, h1, h2, h3, hc]

theorem run_digs (st : Nat) (hs : st = 2 ∨ st = 4) : ∀ (ds : List UInt8) (acc r : List UInt8), (∀ c ∈ ds, isDig c = true) → numRun acc st (ds ++ r) = numRun (acc ++ ds) st r
  | [], acc, r, _ => by simp
  | c :: ds, acc, r, h => by
    have hc := h c List.mem_cons_self
    obtain ⟨h1, h2, h3, _⟩ := dig_not hc
    have e : numStep st c = .go st := by rcases hs with rfl | rfl <;> simp [numStep, h1, h2, h3, hc]
    rw [List.cons_append, numRun, e]
    simp only
    rw [run_digs st hs ds (acc ++ [c]) r (fun c hc => h c (List.mem_cons_of_mem _ hc))]
    simp

/-- A whole number's text, read up to what follows. -/
theorem run_dec (n : Int) : ∃ c ds, decB n = c :: ds ∧ (c = 45 ∨ isDig c = true) ∧ ∃ st, (st = 1 ∨ st = 2) ∧ ∀ r, numRun [c] (numStart c) (ds ++ r) = numRun (decB n) st r := by
  obtain ⟨d, ds, hd, hr, h0, hn0⟩ := decN_head n.natAbs
  have hdig := decN_dig n.natAbs
  rw [hr] at hdig
  have hds : ∀ c ∈ ds, isDig c = true := fun c hc => hdig c (List.mem_cons_of_mem _ hc)
  have hdd := dg_isDig hd
  have hd45 := (dig_not hdd).2.2.2
  unfold decB
  split
  · rename_i hn
    have hd0 := hn0 (by omega)
    have h48 : dg d ≠ 48 := by
      intro h
      have := congrArg UInt8.toNat h
      rw [dg_toNat hd] at this
      simp at this
      omega
    refine ⟨45, decN n.natAbs, rfl, .inl rfl, 2, .inr rfl, fun r => ?_⟩
    rw [hr]
    have e0 : numStart 45 = 0 := rfl
    have e : numStep 0 (dg d) = .go 2 := by simp [numStep, h48, hdd]
    rw [e0, List.cons_append, numRun, e]
    simp only
    rw [run_digs 2 (.inl rfl) ds _ r hds]
    simp
  · rename_i hn
    refine ⟨dg d, ds, hr, .inr hdd, ?_⟩
    by_cases hz : n.natAbs = 0
    · obtain ⟨rfl, rfl⟩ := h0 hz
      refine ⟨1, .inl rfl, fun r => ?_⟩
      rw [hr]
      rfl
    · have hd0 := hn0 hz
      have h48 : dg d ≠ 48 := by
        intro h
        have := congrArg UInt8.toNat h
        rw [dg_toNat hd] at this
        simp at this
        omega
      refine ⟨2, .inr rfl, fun r => ?_⟩
      have e0 : numStart (dg d) = 2 := by simp [numStart, hd45, h48]
      rw [e0, run_digs 2 (.inl rfl) ds _ r hds, hr]
      simp

/-- A whole number is a token. -/
theorem tok_int (pf : PF) (n : Int) (h1 : -1000000000000000000 ≤ n) (h2 : n ≤ 1000000000000000000) (r : List UInt8) (hr : Ends r) :
    ∃ c ds, decB n = c :: ds ∧ (c = 45 ∨ isDig c = true) ∧ numSub pf c (ds ++ r) = if n < -2147483648 ∨ 2147483647 < n then .tok 7 (.i64 n) r else .tok 6 (.i32 n) r := by
  obtain ⟨c, ds, h3, h4, st, hst, h5⟩ := run_dec n
  refine ⟨c, ds, h3, h4, ?_⟩
  unfold numSub
  rw [h5 r, run_ends _ st (by omega) r hr]
  have hd : decide (2 < st) = false := by simp; omega
  simp only [numEnd, numVal, hd, parse_decB n h1 h2]
  rfl

/-- A number with a point is a token, if ParseFloat is told. -/
theorem tok_dbl (pf : PF) (n : Int) (fr : List UInt8) (hf0 : fr ≠ []) (hfd : ∀ c ∈ fr, isDig c = true) (b : Nat) (hb : pf (decB n ++ 46 :: fr) = some (some b)) (r : List UInt8) (hr : Ends r) :
    ∃ c ds, decB n ++ 46 :: fr = c :: ds ∧ (c = 45 ∨ isDig c = true) ∧ numSub pf c (ds ++ r) = .tok 8 (.f64 b) r := by
  obtain ⟨c, ds, h3, h4, st, hst, h5⟩ := run_dec n
  refine ⟨c, ds ++ 46 :: fr, by rw [h3]; rfl, h4, ?_⟩
  unfold numSub
  rw [List.append_assoc, h5]
  have e1 : numStep st 46 = .go 3 := by rcases hst with rfl | rfl <;> rfl
  rw [List.cons_append, numRun, e1]
  simp only
  cases fr with
  | nil => exact absurd rfl hf0
  | cons d fr =>
    have hd := hfd d List.mem_cons_self
    have e2 : numStep 3 d = .go 4 := by simp [numStep, hd]
    rw [List.cons_append, numRun, e2]
    simp only
    rw [run_digs 4 (.inr rfl) fr _ r (fun c hc => hfd c (List.mem_cons_of_mem _ hc)), run_ends _ 4 (by omega) r hr]
    have e3 : decB n ++ [46] ++ [d] ++ fr = decB n ++ 46 :: d :: fr := by simp
    rw [e3]
    simp only [numEnd, numVal, numFloat, hb]
    rfl

end Go.Proofs.YtdabllkphibfmaaGreatDoor

/- Numbers with a point and at most seven digits: ParseFloat's quick road tells them. -/
namespace Go.Proofs.YtdabllkphibfmaaGreatDoor
open Go Go.RowKit
set_option linter.unusedSimpArgs false
set_option linter.unusedVariables false

theorem dig_run (r : List UInt8) : ∀ (ds : List UInt8) (s : RS), (∀ c ∈ ds, isDig c = true) → 0 < s.nd → s.nm + ds.length ≤ 19 → s.m < 10 ^ s.nm → s.dig = true →
    ∃ s', rfDigits s (ds ++ r) = rfDigits s' r ∧ s'.nd = s.nd + ds.length ∧ s'.nm = s.nm + ds.length ∧ s'.dot = s.dot ∧ s'.dp = s.dp ∧ s'.tr = s.tr ∧ s'.dig = true ∧ s'.m < 10 ^ s'.nm
  | [], s, _, _, _, hm, hd => ⟨s, rfl, rfl, rfl, rfl, rfl, rfl, hd, hm⟩
  | c :: ds, s, h, hnd, hl, hm, hd => by
    have hc := h c List.mem_cons_self
    have h46 := (dig_not hc).1
    have hc2 : 48 ≤ c.toNat ∧ c.toNat ≤ 57 := dig_t hc
    have e : s.digit c = { s with dig := true, nd := s.nd + 1, m := s.m * 10 + (c.toNat - 48), nm := s.nm + 1 } := by
      unfold RS.digit
      rw [if_neg (fun h => by omega), if_pos (by simp at hl; omega)]
    obtain ⟨s', h1, h2, h3, h4, h5, h6, h7, h8⟩ := dig_run r ds { s with dig := true, nd := s.nd + 1, m := s.m * 10 + (c.toNat - 48), nm := s.nm + 1 } (fun c hc => h c (List.mem_cons_of_mem _ hc)) (by simp only; omega) (by simp at hl ⊢; omega) (by simp only [Nat.pow_succ]; omega) rfl
    refine ⟨s', ?_, by rw [h2]; simp; omega, by rw [h3]; simp; omega, h4, h5, h6, h7, h8⟩
    rw [List.cons_append, rfDigits, if_neg h46, if_pos hc, e]
    exact h1

theorem dec_num (n : Int) (hn : -10000 ≤ n ∧ n ≤ 10000) (fr : List UInt8) (hfd : ∀ c ∈ fr, isDig c = true) (hfl : fr.length = 1 ∨ fr.length = 2) (hn0 : n ≠ 0) :
    ∃ m neg, rf (decB n ++ 46 :: fr) = some (m, if m = 0 then 0 else -(fr.length : Int), neg, false) ∧ m < 10000000 := by
  obtain ⟨d, ds, hd, hr, _, hz⟩ := decN_head n.natAbs
  have hd0 := hz (by omega)
  have hdig := decN_dig n.natAbs
  have hlen := decN_len n.natAbs 5 (by omega) (by omega)
  rw [hr] at hdig hlen
  have hds : ∀ c ∈ ds, isDig c = true := fun c hc => hdig c (List.mem_cons_of_mem _ hc)
  have hdd := dg_isDig hd
  have hdn := dig_not hdd
  have hdt := dg_toNat hd
  have h48 : dg d ≠ 48 := by
    intro h
    have := congrArg UInt8.toNat h
    rw [hdt] at this
    simp at this
    omega
  have hb : ∃ m, rfBody (decN n.natAbs ++ 46 :: fr) = some (m, if m = 0 then 0 else -(fr.length : Int), false) ∧ m < 10000000 := by
    have e1 : RS.zero.digit (dg d) = ⟨d, 1, 1, 0, false, true, false⟩ := by
      unfold RS.digit
      rw [if_neg (fun h => h48 h.1), if_pos (by decide)]
      simp [RS.zero, hdt]
    obtain ⟨s1, a1, a2, a3, a4, a5, a6, a7, a8⟩ := dig_run (46 :: fr) ds ⟨d, 1, 1, 0, false, true, false⟩ hds (by simp) (by simp at hlen ⊢; omega) (by simp only; omega) rfl
    simp only at a2 a3 a4 a5 a6
    obtain ⟨s2, b1, b2, b3, b4, b5, b6, b7, b8⟩ := dig_run [] fr { s1 with dot := true, dp := s1.nd } hfd (by simp only; omega) (by simp only; simp at hlen; omega) a8 a7
    simp only at b2 b3 b4 b5 b6
    rw [List.append_nil] at b1
    have e2 : rfDigits .zero (decN n.natAbs ++ 46 :: fr) = (s2, []) := by
      rw [hr, List.cons_append, rfDigits, if_neg hdn.1, if_pos hdd, e1, a1, rfDigits, if_pos rfl, if_neg (by rw [a4]; decide), b1]
      rfl
    refine ⟨s2.m, ?_, ?_⟩
    · unfold rfBody
      rw [e2]
      simp only [b7, if_true, rfTail, Option.map_some]
      congr 3
      · split
        · rfl
        · unfold RS.point
          rw [b4]
          simp only [if_true]
          omega
      · rw [b6, a6]
    · have h7 : s2.nm ≤ 7 := by simp at hlen; omega
      have := Nat.pow_le_pow_right (n := 10) (by decide) h7
      have h10 : (10 : Nat) ^ 7 = 10000000 := by decide
      omega
  obtain ⟨m, hb, hm⟩ := hb
  unfold decB
  split
  · refine ⟨m, true, ?_, hm⟩
    rw [List.cons_append, rf, if_pos rfl, hb]
    rfl
  · refine ⟨m, false, ?_, hm⟩
    rw [hr] at hb ⊢
    rw [List.cons_append] at hb ⊢
    rw [rf, if_neg hdn.2.2.2, hb]
    rfl

theorem num_of_dig {c : UInt8} (h : isDig c = true) : isNumC c = true := by simp [isNumC, h]

theorem dec_all (n : Int) (fr : List UInt8) (hfd : ∀ c ∈ fr, isDig c = true) : (decB n ++ 46 :: fr).all isNumC = true := by
  have hd : ∀ c ∈ decN n.natAbs, isNumC c = true := fun c hc => num_of_dig (decN_dig _ c hc)
  rw [List.all_eq_true]
  intro c hc
  rcases List.mem_append.1 hc with hc | hc
  · unfold decB at hc
    split at hc
    · rcases List.mem_cons.1 hc with rfl | hc
      · rfl
      · exact hd c hc
    · exact hd c hc
  · rcases List.mem_cons.1 hc with rfl | hc
    · rfl
    · exact num_of_dig (hfd c hc)

theorem exact_some (m : Nat) (hm : m < 10000000) (e : Int) (he : e = -1 ∨ e = -2) (neg : Bool) : ∃ b, exactF m e neg = some b := by
  unfold exactF
  rw [if_neg (by omega), if_neg (by omega), if_neg (by omega), if_pos (by omega)]
  exact ⟨_, rfl⟩

/-- What is told of a number with a point. -/
theorem quick_dec (n : Int) (hn : -10000 ≤ n ∧ n ≤ 10000) (fr : List UInt8) (hf : fr = [48] ∨ fr = [53] ∨ fr = [50, 53] ∨ fr = [48, 48]) : ∃ b, pfQuick (decB n ++ 46 :: fr) = some (some b) := by
  have hfd : ∀ c ∈ fr, isDig c = true := by
    rcases hf with rfl | rfl | rfl | rfl <;> (intro c hc; simp at hc; first | (rcases hc with rfl | rfl <;> rfl) | (subst hc; rfl))
  have hfl : fr.length = 1 ∨ fr.length = 2 := by rcases hf with rfl | rfl | rfl | rfl <;> simp
  have hlen : (decB n ++ 46 :: fr).length ≤ 1000000 := by
    have := decN_len n.natAbs 5 (by omega) (by omega)
    unfold decB
    split <;> simp <;> omega
  unfold pfQuick
  rw [if_pos ⟨dec_all n fr hfd, hlen⟩]
  have hx : ∃ m e neg, rf (decB n ++ 46 :: fr) = some (m, e, neg, false) ∧ m < 10000000 ∧ (m ≠ 0 → e = -1 ∨ e = -2) := by
    by_cases hz : n = 0
    · subst hz
      have h0 : decB 0 = [48] := by unfold decB; rw [if_neg (by decide), decN, dif_pos (by decide)]; rfl
      rw [h0]
      rcases hf with rfl | rfl | rfl | rfl
      · exact ⟨0, 0, false, rfl, by decide, fun h => absurd rfl h⟩
      · exact ⟨5, -1, false, rfl, by decide, fun _ => .inl rfl⟩
      · exact ⟨25, -2, false, rfl, by decide, fun _ => .inr rfl⟩
      · exact ⟨0, 0, false, rfl, by decide, fun h => absurd rfl h⟩
    · obtain ⟨m, neg, h1, h2⟩ := dec_num n hn fr hfd hfl hz
      refine ⟨m, _, neg, h1, h2, fun h => ?_⟩
      rw [if_neg h]
      omega
  obtain ⟨m, e, neg, h1, h2, h3⟩ := hx
  rw [h1]
  show ∃ b, pfNum (m, e, neg, false) = some (some b)
  unfold pfNum
  simp only
  split
  · exact ⟨_, rfl⟩
  · rename_i h0
    have he := h3 h0
    rw [if_neg (by
      rintro (h | h | h | h)
      · cases h
      · omega
      · omega
      · omega)]
    obtain ⟨b, hb⟩ := exact_some m h2 e he neg
    exact ⟨b, by rw [hb]; rfl⟩

end Go.Proofs.YtdabllkphibfmaaGreatDoor

/- A text that is put together of tokens has these tokens: the plain law. -/
namespace Go.Proofs.YtdabllkphibfmaaGreatDoor
open Go Go.RowKit
set_option linter.unusedSimpArgs false
set_option linter.unusedVariables false

/-- A token as a text: its kind, the text by which it stands, the text that a string has, its number. -/
structure Mk where
  kind : Nat
  body : List UInt8
  text : List UInt8
  n : Int

def punct (k : Nat) : UInt8 := [123, 125, 91, 93, 58, 44].getD k 0

def quos : List (List UInt8 × List UInt8) := [([34, 34], []), ([34, 97, 34], [97]), ([34, 116, 114, 117, 101, 34], [116, 114, 117, 101]), ([34, 195, 169, 34], [195, 169]), ([34, 92, 34, 34], [34]), ([34, 92, 92, 32, 47, 34], [92, 32, 47]), ([34, 92, 110, 34], [10]), ([34, 120, 32, 121, 34], [120, 32, 121])]

def fracs : List (List UInt8) := [[48], [53], [50, 53], [48, 48]]

inductive IsMk : Mk → Prop
  | pun (k : Nat) (hk : k < 6) : IsMk ⟨k, [punct k], [], 0⟩
  | i32 (n : Int) (h : -2147483648 ≤ n ∧ n ≤ 2147483647) : IsMk ⟨6, decB n, [], n⟩
  | i64 (n : Int) (h : n < -2147483648 ∨ 2147483647 < n) (hb : -1000000000000000000 ≤ n ∧ n ≤ 1000000000000000000) : IsMk ⟨7, decB n, [], n⟩
  | dbl (n : Int) (h : -10000 ≤ n ∧ n ≤ 10000) (fr : List UInt8) (hf : fr ∈ fracs) : IsMk ⟨8, decB n ++ 46 :: fr, [], n⟩
  | str (x : List UInt8 × List UInt8) (h : x ∈ quos) : IsMk ⟨9, x.1, x.2, 0⟩
  | fls : IsMk ⟨10, [102, 97, 108, 115, 101], [], 0⟩
  | tru : IsMk ⟨10, [116, 114, 117, 101], [], 1⟩
  | nul : IsMk ⟨11, [110, 117, 108, 108], [], 0⟩

/-- What is told of a token is so. -/
def Told (m : Mk) (v : TV) : Prop :=
  (m.kind = 9 → v.text = m.text) ∧ (m.kind = 6 ∨ m.kind = 7 ∨ m.kind = 10 → v.num = m.n) ∧ (m.kind = 8 → pfQuick m.body = some (some v.bits))

theorem dig_blank {c : UInt8} (h : c = 45 ∨ isDig c = true) : isBlank c = false ∧ c ≠ 123 ∧ c ≠ 125 ∧ c ≠ 91 ∧ c ≠ 93 ∧ c ≠ 58 ∧ c ≠ 44 ∧ c ≠ 34 ∧ (c = 45 ∨ (48 ≤ c.toNat ∧ c.toNat ≤ 57)) := by
  have all : ∀ k : _root_.Fin 256, (UInt8.ofNat k.val = 45 ∨ isDig (UInt8.ofNat k.val) = true) → isBlank (UInt8.ofNat k.val) = false ∧ UInt8.ofNat k.val ≠ 123 ∧ UInt8.ofNat k.val ≠ 125 ∧ UInt8.ofNat k.val ≠ 91 ∧ UInt8.ofNat k.val ≠ 93 ∧ UInt8.ofNat k.val ≠ 58 ∧ UInt8.ofNat k.val ≠ 44 ∧ UInt8.ofNat k.val ≠ 34 := by decide +kernel
  have := all ⟨c.toNat, c.toNat_lt⟩
  simp only [UInt8.ofNat_toNat] at this
  obtain ⟨a, b, c1, d, e, f, g, i⟩ := this h
  refine ⟨a, b, c1, d, e, f, g, i, ?_⟩
  rcases h with h | h
  · exact .inl h
  · exact .inr (of_decide_eq_true h)

theorem tokAt_num (num lit : UInt8 → List UInt8 → SubEnd) {c : UInt8} (h : c = 45 ∨ isDig c = true) (r : List UInt8) : tokAt num lit c r = num c r := by
  obtain ⟨_, a, b, d, e, f, g, i, j⟩ := dig_blank h
  unfold tokAt
  rw [if_neg a, if_neg b, if_neg d, if_neg e, if_neg f, if_neg g, if_neg i, if_pos j]

theorem strSub_quo (x : List UInt8 × List UInt8) (h : x ∈ quos) : ∃ e, x.1 = 34 :: (e ++ [34]) ∧ ∀ r, strSub (e ++ [34] ++ r) = .tok 9 (.str x.2) r := by
  have fin : ∀ (e s : List UInt8), ReadAs e s → ∀ r, strSub (e ++ [34] ++ r) = .tok 9 (.str s) r := by
    intro e s ⟨n, hn, hr⟩ r
    unfold strSub
    have hl : (e ++ [34] ++ r).length + 1 = (e.length - n + r.length + 1 + 1) + n := by simp; omega
    rw [hl, List.append_assoc, hr]
    simp [strRun, strStep]
  have pl := ReadAs.plains
  simp only [quos, List.mem_cons, List.not_mem_nil, or_false] at h
  rcases h with rfl | rfl | rfl | rfl | rfl | rfl | rfl | rfl
  · exact ⟨[], rfl, fin _ _ .nil⟩
  · exact ⟨[97], rfl, fin _ _ (pl _ (by decide))⟩
  · exact ⟨[116, 114, 117, 101], rfl, fin _ _ (pl _ (by decide))⟩
  · exact ⟨[195, 169], rfl, fin _ _ (pl _ (by decide))⟩
  · exact ⟨[92, 34], rfl, fin _ _ (.esc 34 34 rfl (by decide))⟩
  · exact ⟨[92, 92, 32, 47], rfl, fin _ _ ((ReadAs.esc 92 92 rfl (by decide)).append (pl [32, 47] (by decide)))⟩
  · exact ⟨[92, 110], rfl, fin _ _ (.esc 110 10 rfl (by decide))⟩
  · exact ⟨[120, 32, 121], rfl, fin _ _ (pl _ (by decide))⟩

theorem word_ends (k : Nat) (v : TV) (r : List UInt8) (hr : Ends r) : wordEnd k v r = .tok k v r := by
  rcases hr with rfl | ⟨c, r', rfl, hc⟩
  · rfl
  · simp [wordEnd, hc]

theorem frac_ok {fr : List UInt8} (h : fr ∈ fracs) : (fr = [48] ∨ fr = [53] ∨ fr = [50, 53] ∨ fr = [48, 48]) ∧ fr ≠ [] ∧ ∀ c ∈ fr, isDig c = true := by
  simp only [fracs, List.mem_cons, List.not_mem_nil, or_false] at h
  refine ⟨h, ?_, ?_⟩
  · rcases h with rfl | rfl | rfl | rfl <;> simp
  · rcases h with rfl | rfl | rfl | rfl <;> decide

/-- Each mark is a token. -/
theorem mark_tok {m : Mk} (h : IsMk m) : m.kind < 12 ∧ ∃ c as', m.body = c :: as' ∧ isBlank c = false ∧ ∃ v, Told m v ∧ v.inR ∧ ∀ r, (6 ≤ m.kind → Ends r) → tokAt (numSub pfQuick) litRun c (as' ++ r) = .tok m.kind v r := by
  cases h with
  | pun k hk =>
    refine ⟨by simp only; omega, punct k, [], rfl, ?_, .byte (punct k).toNat, ?_, trivial, ?_⟩
    · have : ∀ k : _root_.Fin 6, isBlank (punct k.val) = false := by decide
      exact this ⟨k, hk⟩
    · exact ⟨fun h => absurd h (by simp only; omega), fun h => absurd h (by simp only; omega), fun h => absurd h (by simp only; omega)⟩
    · intro r _
      have : ∀ k, k < 6 → tokAt (numSub pfQuick) litRun (punct k) r = .tok k (.byte (punct k).toNat) r := by
        intro k hk
        match k, hk with
        | 0, _ => rfl
        | 1, _ => rfl
        | 2, _ => rfl
        | 3, _ => rfl
        | 4, _ => rfl
        | 5, _ => rfl
      exact this k hk
  | i32 n hn =>
    obtain ⟨c, ds, h1, h2, _⟩ := tok_int pfQuick n (by omega) (by omega) [] (.inl rfl)
    refine ⟨by simp only; decide, c, ds, h1, (dig_blank h2).1, .i32 n, ⟨(fun h => absurd h (by simp only; decide)), fun _ => rfl, (fun h => absurd h (by simp only; decide))⟩, ⟨by omega, by omega⟩, fun r hr => ?_⟩
    obtain ⟨c', ds', h1', _, h3⟩ := tok_int pfQuick n (by omega) (by omega) r (hr (by simp only; decide))
    rw [h1] at h1'
    injection h1' with e1 e2
    subst e1 e2
    rw [tokAt_num _ _ h2, h3, if_neg (by omega)]
  | i64 n hn hb =>
    obtain ⟨c, ds, h1, h2, _⟩ := tok_int pfQuick n (by omega) (by omega) [] (.inl rfl)
    refine ⟨by simp only; decide, c, ds, h1, (dig_blank h2).1, .i64 n, ⟨(fun h => absurd h (by simp only; decide)), fun _ => rfl, (fun h => absurd h (by simp only; decide))⟩, ⟨by omega, by omega⟩, fun r hr => ?_⟩
    obtain ⟨c', ds', h1', _, h3⟩ := tok_int pfQuick n (by omega) (by omega) r (hr (by simp only; decide))
    rw [h1] at h1'
    injection h1' with e1 e2
    subst e1 e2
    rw [tokAt_num _ _ h2, h3, if_pos (by omega)]
  | dbl n hn fr hf =>
    obtain ⟨hf1, hf2, hf3⟩ := frac_ok hf
    obtain ⟨b, hb⟩ := quick_dec n hn fr hf1
    obtain ⟨c, ds, h1, h2, _⟩ := tok_dbl pfQuick n fr hf2 hf3 b hb [] (.inl rfl)
    refine ⟨by simp only; decide, c, ds, h1, (dig_blank h2).1, .f64 b, ⟨(fun h => absurd h (by simp only; decide)), (fun h => absurd h (by simp only; decide)), fun _ => hb⟩, trivial, fun r hr => ?_⟩
    obtain ⟨c', ds', h1', _, h3⟩ := tok_dbl pfQuick n fr hf2 hf3 b hb r (hr (by simp only; decide))
    rw [h1] at h1'
    injection h1' with e1 e2
    subst e1 e2
    rw [tokAt_num _ _ h2, h3]
  | str x hx =>
    obtain ⟨e, h1, h2⟩ := strSub_quo x hx
    refine ⟨by simp only; decide, 34, e ++ [34], h1, by decide, .str x.2, ⟨fun _ => rfl, (fun h => absurd h (by simp only; decide)), (fun h => absurd h (by simp only; decide))⟩, trivial, fun r _ => ?_⟩
    show strSub (e ++ [34] ++ r) = _
    exact h2 r
  | fls =>
    refine ⟨by simp only; decide, 102, [97, 108, 115, 101], rfl, by decide, .bool false, ⟨(fun h => absurd h (by simp only; decide)), fun _ => rfl, (fun h => absurd h (by simp only; decide))⟩, trivial, fun r hr => ?_⟩
    exact word_ends 10 (.bool false) r (hr (by simp only; decide))
  | tru =>
    refine ⟨by simp only; decide, 116, [114, 117, 101], rfl, by decide, .bool true, ⟨(fun h => absurd h (by simp only; decide)), fun _ => rfl, (fun h => absurd h (by simp only; decide))⟩, trivial, fun r hr => ?_⟩
    exact word_ends 10 (.bool true) r (hr (by simp only; decide))
  | nul =>
    refine ⟨by simp only; decide, 110, [117, 108, 108], rfl, by decide, .nul, ⟨(fun h => absurd h (by simp only; decide)), (fun h => absurd h (by simp only; decide)), (fun h => absurd h (by simp only; decide))⟩, trivial, fun r hr => ?_⟩
    exact word_ends 11 .nul r (hr (by simp only; decide))

def Blanks (t : List UInt8) : Prop := ∀ c ∈ t, isBlank c = true

/-- A text of tokens with blanks between them, from the place pos on; prev: the kind of the one ahead. -/
def Parts : Nat → Nat → List Mk → List UInt8 → List Nat → Prop
  | _, _, [], s, pl => Blanks s ∧ pl = []
  | pos, prev, m :: ms, s, pl => ∃ t r pl', Blanks t ∧ (6 ≤ prev → m.kind ≠ 1 → m.kind ≠ 3 → m.kind ≠ 5 → t ≠ []) ∧ s = t ++ m.body ++ r ∧ pl = (pos + t.length) :: pl' ∧ Parts (pos + t.length + m.body.length) m.kind ms r pl'

theorem blank_term {c : UInt8} (h : isBlank c = true) : isTerm c = true := by simp [isTerm, h]

theorem ends_of_blanks {t r : List UInt8} (ht : Blanks t) (h0 : t ≠ []) : Ends (t ++ r) := by
  cases t with
  | nil => exact absurd rfl h0
  | cons c t => exact .inr ⟨c, t ++ r, rfl, blank_term (ht c List.mem_cons_self)⟩

theorem parts_ends {pos prev : Nat} {ms : List Mk} {s : List UInt8} {pl : List Nat} (h : Parts pos prev ms s pl) (hp : 6 ≤ prev) (hm : ∀ m ∈ ms, IsMk m) (e : List UInt8) (he : Ends e) : Ends (s ++ e) := by
  cases ms with
  | nil =>
    obtain ⟨h1, _⟩ := h
    cases s with
    | nil => exact he
    | cons c s => exact ends_of_blanks h1 (by simp)
  | cons m ms =>
    obtain ⟨t, r, pl', h1, h2, rfl, _, _⟩ := h
    by_cases ht : t = []
    · subst ht
      have hk : m.kind = 1 ∨ m.kind = 3 ∨ m.kind = 5 := by
        by_cases k1 : m.kind = 1
        · exact .inl k1
        · by_cases k3 : m.kind = 3
          · exact .inr (.inl k3)
          · by_cases k5 : m.kind = 5
            · exact .inr (.inr k5)
            · exact absurd rfl (h2 hp k1 k3 k5)
      have him := hm m List.mem_cons_self
      cases him with
      | pun k hk6 =>
        refine .inr ⟨punct k, r ++ e, rfl, ?_⟩
        simp only at hk
        rcases hk with rfl | rfl | rfl <;> decide
      | _ => exact absurd hk (by simp only; decide)
    · rw [List.append_assoc, List.append_assoc]
      exact ends_of_blanks h1 ht

theorem drop_blanks {t r : List UInt8} (ht : Blanks t) : (t ++ r).dropWhile isBlank = r.dropWhile isBlank := by
  induction t with
  | nil => rfl
  | cons c t ih =>
    have h := ht c List.mem_cons_self
    rw [List.cons_append, List.dropWhile_cons, if_pos h]
    exact ih fun c hc => ht c (List.mem_cons_of_mem _ hc)

theorem toks_blanks (num lit : UInt8 → List UInt8 → SubEnd) (n f : Nat) {t : List UInt8} (r : List UInt8) (ht : Blanks t) : toks num lit n f (t ++ r) = toks num lit n f r := by
  cases f with
  | zero => rfl
  | succ f => simp only [toks, drop_blanks ht]

/-- The tokens fit the marks. -/
def Fits : List Mk → List Nat → List (Nat × TV × Nat) → Prop
  | [], [], [] => True
  | m :: ms, p :: pl, x :: ts => x.1 = m.kind ∧ Told m x.2.1 ∧ x.2.1.inR ∧ x.2.2 = p % 512 ∧ Fits ms pl ts
  | _, _, _ => False

theorem toks_parts : ∀ (ms : List Mk) (pos prev : Nat) (s : List UInt8) (pl : List Nat), Parts pos prev ms s pl → (∀ m ∈ ms, IsMk m) → ∀ (e : List UInt8), Ends e → ∀ (n f : Nat) (res : List (Nat × TV × Nat)) (ok : Bool), n = pos + s.length + e.length →
    toks (numSub pfQuick) litRun n f e = some (res, ok) → ∃ ts, Fits ms pl ts ∧ toks (numSub pfQuick) litRun n (f + ms.length) (s ++ e) = some (ts ++ res, ok)
  | [], pos, prev, s, pl, h, _, e, _, n, f, res, ok, _, ht => by
    obtain ⟨h1, rfl⟩ := h
    exact ⟨[], trivial, by rw [toks_blanks _ _ _ _ e h1]; exact ht⟩
  | m :: ms, pos, prev, s, pl, h, hm, e, he, n, f, res, ok, hn, ht => by
    obtain ⟨t, r, pl', h1, h2, rfl, rfl, h5⟩ := h
    obtain ⟨hk, c, as', hb, hcb, v, hv, hvr, htok⟩ := mark_tok (hm m List.mem_cons_self)
    have hms : ∀ m ∈ ms, IsMk m := fun m h => hm m (List.mem_cons_of_mem _ h)
    obtain ⟨ts, hf, hts⟩ := toks_parts ms _ _ r pl' h5 hms e he n f res ok (by rw [hn]; simp; omega) ht
    refine ⟨(m.kind, v, (pos + t.length) % 512) :: ts, ⟨rfl, hv, hvr, rfl, hf⟩, ?_⟩
    have ht2 := htok (r ++ e) (fun h6 => parts_ends h5 h6 hms e he)
    rw [List.append_assoc, List.append_assoc, toks_blanks _ _ _ _ _ h1, hb]
    have hd : (c :: as' ++ (r ++ e)).dropWhile isBlank = c :: (as' ++ (r ++ e)) := by
      rw [List.cons_append, List.dropWhile_cons, if_neg (by rw [hcb]; decide)]
    have hl : f + (m :: ms).length = (f + ms.length) + 1 := by simp; omega
    rw [hl, toks, hd]
    simp only [ht2, hts, Option.map_some, List.cons_append]
    have hp : n - ((as' ++ (r ++ e)).length + 1) = pos + t.length := by rw [hn, hb]; simp; omega
    rw [hp]

theorem Fits.len : ∀ {ms : List Mk} {pl : List Nat} {ts : List (Nat × TV × Nat)}, Fits ms pl ts → ts.length = ms.length ∧ pl.length = ms.length
  | [], [], [], _ => ⟨rfl, rfl⟩
  | m :: ms, p :: pl, x :: ts, h => by
    obtain ⟨_, _, _, _, h⟩ := h
    have := Fits.len h
    simp only [List.length_cons]
    omega
  | [], [], _ :: _, h => h.elim
  | [], _ :: _, [], h => h.elim
  | [], _ :: _, _ :: _, h => h.elim
  | _ :: _, [], [], h => h.elim
  | _ :: _, [], _ :: _, h => h.elim
  | _ :: _, _ :: _, [], h => h.elim

theorem Fits.get : ∀ {ms : List Mk} {pl : List Nat} {ts : List (Nat × TV × Nat)}, Fits ms pl ts → ∀ (i : Nat) (h1 : i < ms.length) (h2 : i < ts.length) (h3 : i < pl.length), (ts[i]'h2).1 = (ms[i]'h1).kind ∧ Told (ms[i]'h1) (ts[i]'h2).2.1 ∧ (ts[i]'h2).2.1.inR ∧ (ts[i]'h2).2.2 = (pl[i]'h3) % 512
  | m :: ms, p :: pl, x :: ts, h, 0, _, _, _ => ⟨h.1, h.2.1, h.2.2.1, h.2.2.2.1⟩
  | m :: ms, p :: pl, x :: ts, h, i + 1, h1, h2, h3 => Fits.get h.2.2.2.2 i (by simpa using h1) (by simpa using h2) (by simpa using h3)
  | [], _, _, _, i, h1, _, _ => absurd h1 (by simp)
  | _ :: _, [], _, _, i, _, _, h3 => absurd h3 (by simp)
  | _ :: _, _ :: _, [], _, i, _, h2, _ => absurd h2 (by simp)

/-- The whole text. -/
theorem toks_all (ms : List Mk) (s : List UInt8) (pl : List Nat) (h : Parts 0 0 ms s pl) (hm : ∀ m ∈ ms, IsMk m) : ∃ ts, Fits ms pl ts ∧ toks (numSub pfQuick) litRun s.length (1 + ms.length) s = some (ts, true) := by
  obtain ⟨ts, h1, h2⟩ := toks_parts ms 0 0 s pl h hm [] (.inl rfl) s.length 1 [] true (by simp) rfl
  rw [List.append_nil, List.append_nil] at h2
  exact ⟨ts, h1, h2⟩

end Go.Proofs.YtdabllkphibfmaaGreatDoor

/- What decNumber and gap give: plain laws over the printed functions. -/
namespace Go.Proofs.YtdabllkphibfmaaGreatDoor
open Go Go.RowKit PFnExtTokens Go.Proofs.YtdabllkphibfmaaGreatDoorW.PrintWords
set_option linter.unusedSimpArgs false
set_option linter.unusedVariables false

theorem next_below {code : List Int} {p : Int} (h : AtOk code p) (hc : ∀ x ∈ code, 0 ≤ x ∧ x ≤ 255) (b1 b2 : Bool) (m : Int) (hm : 0 < m) : ∃ r p', spec_extStyle_next.f code p b1 b2 m = some (r, p', b1, b2) ∧ AtOk code p' ∧ 0 ≤ r ∧ r < m := by
  obtain ⟨h0, h1⟩ := h
  unfold spec_extStyle_next.f
  by_cases hp : p ≥ (code.length : Int)
  · rw [if_pos hp]
    exact ⟨0, p, rfl, ⟨h0, h1⟩, by omega, hm⟩
  · rw [if_neg hp, wrap64_id (x := p + 1) (by omega) (by omega), wrap64_id (x := p + 1 - 1) (by omega) (by omega), if_pos (by omega), if_pos (by omega), if_neg (by omega)]
    have hr : 0 ≤ rd code (p + 1 - 1) ∧ rd code (p + 1 - 1) ≤ 255 := by
      unfold rd
      rw [List.getD_eq_getElem?_getD]
      cases hg : code[(p + 1 - 1).toNat]? with
      | none => simp
      | some x => exact hc x (List.mem_of_getElem? hg)
    rw [wrap64_id (by omega) (by omega)]
    refine ⟨_, p + 1, rfl, ⟨by omega, h1⟩, ?_, ?_⟩
    · exact Int.tmod_nonneg _ hr.1
    · exact Int.tmod_lt_of_pos _ hm

theorem gap_ok {code : List Int} {p : Int} (h : AtOk code p) (hc : ∀ x ∈ code, 0 ≤ x ∧ x ≤ 255) (b2 : Bool) : ∃ t p', spec_extStyle_gap.f code p false b2 = some (t, p', false, b2) ∧ AtOk code p' ∧ Blanks t.data.toList ∧ t.size ≤ 2 := by
  obtain ⟨r, p', h1, h2, h3, h4⟩ := next_below h hc false b2 8 (by decide)
  unfold spec_extStyle_gap.f
  rw [if_neg (by decide)]
  simp only [Option.bind_some, h1]
  rw [if_pos h3, if_pos (by simpa using h4)]
  obtain ⟨k, rfl⟩ : ∃ k : Nat, r = k := ⟨r.toNat, by omega⟩
  have hk : k < 8 := by omega
  refine ⟨_, p', rfl, h2, ?_, ?_⟩
  · have all : ∀ k : _root_.Fin 8, ∀ c ∈ (rdOf ByteArray.empty [(⟨#[]⟩ : ByteArray), ⟨#[]⟩, ⟨#[]⟩, ⟨#[32]⟩, ⟨#[10]⟩, ⟨#[9]⟩, ⟨#[13, 10]⟩, ⟨#[32, 32]⟩] ((k.val : Nat) : Int)).data.toList, isBlank c = true := by decide
    exact all ⟨k, hk⟩
  · have all : ∀ k : _root_.Fin 8, (rdOf ByteArray.empty [(⟨#[]⟩ : ByteArray), ⟨#[]⟩, ⟨#[]⟩, ⟨#[32]⟩, ⟨#[10]⟩, ⟨#[9]⟩, ⟨#[13, 10]⟩, ⟨#[32, 32]⟩] ((k.val : Nat) : Int)).size ≤ 2 := by decide
    exact all ⟨k, hk⟩

theorem nums_one (d : Int) (h0 : 0 ≤ d) (h1 : d < 10) : strOfNums ([(wrap64 (48 + d)) % 256] : List Int) = ⟨#[dg d.toNat]⟩ := by
  obtain ⟨k, rfl⟩ : ∃ k : Nat, d = k := ⟨d.toNat, by omega⟩
  have all : ∀ k : _root_.Fin 10, strOfNums ([(wrap64 (48 + ((k.val : Nat) : Int))) % 256] : List Int) = ⟨#[dg k.val]⟩ := by decide +kernel
  exact all ⟨k, by omega⟩

theorem decNat_ok (n : Nat) : ∀ k, (decN n).length ≤ k → n ≤ 1000000000000000000 → laws_decNumber.f k (n : Int) = some ⟨(decN n).toArray⟩ := by
  induction n using Nat.strongRecOn with
  | _ n ih =>
    intro k hk hn
    obtain ⟨j, rfl⟩ : ∃ j, k = j + 1 := by
      obtain ⟨d, r, _, hr, _⟩ := decN_head n
      rw [hr] at hk
      exact ⟨k - 1, by simp at hk; omega⟩
    rw [laws_decNumber.f, if_neg (by omega)]
    by_cases h : n < 10
    · rw [if_pos (by omega), nums_one n (by omega) (by omega), decN, dif_pos h]
      simp
    · rw [if_neg (by omega)]
      have e1 : Int.tdiv (n : Int) 10 = ((n / 10 : Nat) : Int) := by rw [Int.tdiv_eq_ediv_of_nonneg (by omega)]; rfl
      have e2 : Int.tmod (n : Int) 10 = ((n % 10 : Nat) : Int) := by rw [Int.tmod_eq_emod_of_nonneg (by omega)]; rfl
      have hd : decN n = decN (n / 10) ++ [dg (n % 10)] := by rw [decN, dif_neg h]
      rw [hd] at hk
      have hi := ih (n / 10) (by omega) j (by simp at hk; omega) (by omega)
      rw [e1, e2, wrap64_id (x := ((n / 10 : Nat) : Int)) (by omega) (by omega), hi]
      simp only [Option.bind_some]
      rw [nums_one _ (by omega) (by omega)]
      have hlen := decN_len (n / 10) 19 (by omega) (by decide)
      have hs1 : (⟨(decN (n / 10)).toArray⟩ : ByteArray).size = (decN (n / 10)).length := by simp [ByteArray.size]
      have hs2 : (⟨#[dg (((n % 10 : Nat) : Int)).toNat]⟩ : ByteArray).size = 1 := rfl
      rw [if_pos (by rw [hs1, hs2]; omega), hd]
      congr 1
      first | done | (apply ByteArray.ext; simp)

theorem dec_ok (n : Int) (h1 : -1000000000000000000 ≤ n) (h2 : n ≤ 1000000000000000000) : laws_decNumber.f 21 n = some ⟨(decB n).toArray⟩ := by
  have hlen := decN_len n.natAbs 19 (by omega) (by decide)
  unfold decB
  by_cases hn : n < 0
  · rw [if_pos hn, laws_decNumber.f, if_pos hn, wrap64_id (by omega) (by omega)]
    have e : -n = ((n.natAbs : Nat) : Int) := by omega
    rw [e, decNat_ok n.natAbs 20 (by omega) (by omega)]
    simp only [Option.bind_some]
    have hs1 : (⟨(decN n.natAbs).toArray⟩ : ByteArray).size = (decN n.natAbs).length := by simp [ByteArray.size]
    rw [if_pos (by rw [hs1]; omega)]
    congr 1
    first | done | (apply ByteArray.ext; simp)
  · rw [if_neg hn]
    have e : n = ((n.natAbs : Nat) : Int) := by omega
    rw [e]
    exact decNat_ok n.natAbs 21 (by omega) (by omega)

end Go.Proofs.YtdabllkphibfmaaGreatDoor
