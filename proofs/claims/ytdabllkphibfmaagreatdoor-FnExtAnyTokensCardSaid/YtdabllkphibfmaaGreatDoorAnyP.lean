/- Tokens of any text: strings, numbers and words, as the reference reads them and as the scanner does: plain. -/
import Derived.Test.YtdabllkphibfmaaGreatDoorNumP
import Derived.Lib.Hide
namespace Go.Proofs.YtdabllkphibfmaaGreatDoor
open Go Go.RowKit
set_option linter.unusedSimpArgs false
set_option linter.unusedVariables false

/-! ### Strings, without fuel -/

theorem strU_less {l r x : List UInt8} (h : strU l = .more x r) : r.length + 4 ≤ l.length := by
  unfold strU at h
  split at h
  · split at h
    · cases h
    · split at h
      · injection h with _ h2; subst h2; simp
      · split at h
        · split at h
          · cases h
          · split at h
            · injection h with _ h2; subst h2; simp
            · cases h
        · cases h
  · cases h

theorem strU_done {l r : List UInt8} : strU l ≠ .done r := by
  intro h
  unfold strU at h
  split at h
  · split at h
    · cases h
    · split at h
      · cases h
      · split at h
        · split at h
          · cases h
          · split at h <;> cases h
        · cases h
  · cases h

theorem strStep_more {l x r : List UInt8} (h : strStep l = .more x r) : r.length < l.length := by
  unfold strStep at h
  split at h
  · cases h
  · split at h
    · cases h
    · split at h
      · split at h
        · cases h
        · split at h
          · have := strU_less h; simp; omega
          · split at h
            · injection h with _ h2; subst h2; simp; omega
            · cases h
      · injection h with _ h2; subst h2; simp

theorem strRun_fuel : ∀ (f f' : Nat) (acc l : List UInt8), l.length < f → l.length < f' → strRun f acc l = strRun f' acc l
  | 0, _, _, _, h, _ => absurd h (by omega)
  | _ + 1, 0, _, _, _, h => absurd h (by omega)
  | f + 1, f' + 1, acc, l, h, h' => by
    simp only [strRun]
    cases hs : strStep l with
    | err => rfl
    | out => rfl
    | done r => rfl
    | more x r =>
      have := strStep_more hs
      exact strRun_fuel f f' _ _ (by omega) (by omega)

/-- A string's end, from here on. -/
def strAll (acc l : List UInt8) : StrEnd := strRun (l.length + 1) acc l

theorem strAll_more {acc l x r : List UInt8} (h : strStep l = .more x r) : strAll acc l = strAll (acc ++ x) r := by
  have := strStep_more h
  have e : strRun (l.length + 1) acc l = strRun l.length (acc ++ x) r := by rw [strRun, h]
  exact e.trans (strRun_fuel _ _ _ _ (by omega) (by omega))
theorem strAll_done {acc l r : List UInt8} (h : strStep l = .done r) : strAll acc l = .ok acc r := by unfold strAll; simp only [strRun, h]
theorem strAll_err {acc l : List UInt8} (h : strStep l = .err) : strAll acc l = .err := by unfold strAll; simp only [strRun, h]

theorem strAll_plain (acc : List UInt8) {c : UInt8} (h1 : c ≠ 34) (h2 : c ≠ 92) (r : List UInt8) : strAll acc (c :: r) = strAll (acc ++ [c]) r :=
  strAll_more (by simp [strStep, h1, h2])

theorem strAll_plains : ∀ (n : Nat) (acc l : List UInt8), n ≤ l.length → (∀ c ∈ l.take n, c ≠ 34 ∧ c ≠ 92) → strAll acc l = strAll (acc ++ l.take n) (l.drop n)
  | 0, acc, l, _, _ => by simp
  | n + 1, acc, [], h, _ => absurd h (by simp)
  | n + 1, acc, c :: r, h, hc => by
    have h1 := hc c (by simp)
    rw [strAll_plain acc h1.1 h1.2, strAll_plains n (acc ++ [c]) r (by simpa using h) (fun x hx => hc x (by simp [hx]))]
    simp

/-! ### Numbers -/

/-- The state behind a text's bytes. -/
def numFin : Nat → List UInt8 → Option Nat
  | s, [] => some s
  | s, c :: r => match numStep s c with | .go s' => numFin s' r | _ => none

def stopB (c : UInt8) : Bool := !isTerm c

theorem byte_all {p : UInt8 → Prop} (h : ∀ k : _root_.Fin 256, p (UInt8.ofNat k.val)) (c : UInt8) : p c := by
  have := h ⟨c.toNat, c.toNat_lt⟩
  simpa only [UInt8.ofNat_toNat] using this

def stepTermB (s : Nat) (c : UInt8) : Bool :=
  match numStep s c with
  | .go s' => !isTerm c && decide (s' ≤ 7) && (decide (2 < s') || decide (s' = 1) && decide (s = 0) || decide (s' = 2))
  | .done => isTerm c && numEnds s
  | .bad => !(isTerm c) || !numEnds s

theorem stepTerm_all : ∀ s : _root_.Fin 8, ∀ k : _root_.Fin 256, stepTermB s.val (UInt8.ofNat k.val) = true := by decide +kernel

theorem step_go {s s' : Nat} {c : UInt8} (hs : s ≤ 7) (h : numStep s c = .go s') : isTerm c = false ∧ s' ≤ 7 := by
  have := byte_all (p := fun c => stepTermB s c = true) (stepTerm_all ⟨s, by omega⟩) c
  simp only [stepTermB, h] at this
  simp only [Bool.and_eq_true, Bool.not_eq_true', decide_eq_true_eq] at this
  exact ⟨this.1.1, this.1.2⟩
theorem step_done {s : Nat} {c : UInt8} (hs : s ≤ 7) (h : numStep s c = .done) : isTerm c = true ∧ numEnds s = true := by
  have := byte_all (p := fun c => stepTermB s c = true) (stepTerm_all ⟨s, by omega⟩) c
  simp only [stepTermB, h] at this
  simpa using this
theorem step_bad {s : Nat} {c : UInt8} (hs : s ≤ 7) (h : numStep s c = .bad) : isTerm c = true → numEnds s = false := by
  have := byte_all (p := fun c => stepTermB s c = true) (stepTerm_all ⟨s, by omega⟩) c
  simp only [stepTermB, h] at this
  intro ht
  simpa [ht] using this

def numOut (acc : List UInt8) (b : List UInt8) (o : Option Nat) (a : List UInt8) : Option (List UInt8 × Bool × List UInt8) :=
  match o with
  | some s => if numEnds s then some (acc ++ a, decide (2 < s), b) else none
  | none => none

theorem numRun_span : ∀ (l acc : List UInt8) (s : Nat), s ≤ 7 → numRun acc s l = numOut acc (l.dropWhile stopB) (numFin s (l.takeWhile stopB)) (l.takeWhile stopB)
  | [], acc, s, _ => by simp [numRun, numOut, numFin]
  | c :: r, acc, s, hs => by
    simp only [numRun]
    cases h : numStep s c with
    | go s' =>
      obtain ⟨h1, h2⟩ := step_go hs h
      rw [List.takeWhile_cons, List.dropWhile_cons]
      simp only [stopB, h1, Bool.not_false, if_true]
      rw [numRun_span r (acc ++ [c]) s' h2]
      simp only [numFin, h]
      cases numFin s' (List.takeWhile stopB r) with
      | none => rfl
      | some s2 => simp [numOut]
    | done =>
      obtain ⟨h1, h2⟩ := step_done hs h
      rw [List.takeWhile_cons, List.dropWhile_cons]
      simp [stopB, h1, numFin, numOut, h2]
    | bad =>
      have h1 := step_bad hs h
      rw [List.takeWhile_cons, List.dropWhile_cons]
      cases ht : isTerm c with
      | true => simp [stopB, ht, numFin, numOut, h1 ht]
      | false => simp [stopB, ht, numFin, numOut, h]

/-- What the reference reads of a number: behind the integer's digits. -/
def exExp (l : List UInt8) : Bool :=
  match l with
  | [] => true
  | c :: r => isExp c && (match r with
    | [] => false
    | d :: r' => if d = 43 ∨ d = 45 then (match r' with | [] => false | e :: r'' => isDig e && (r''.dropWhile isDig).isEmpty) else isDig d && (r'.dropWhile isDig).isEmpty)

def exFrac (l : List UInt8) : Bool :=
  match l with
  | [] => true
  | c :: r => if c = 46 then (match r with | [] => false | d :: r' => isDig d && exExp (r'.dropWhile isDig)) else exExp (c :: r)

def exInt (l : List UInt8) : Option Bool :=
  match l with
  | [] => none
  | c :: r =>
    if isDig c then
      if c = 48 ∧ r.takeWhile isDig ≠ [] then none
      else if exFrac (r.dropWhile isDig) then some (r.dropWhile isDig).isEmpty else none
    else none

/-- A number: none, or is it an integer? -/
def exNum (l : List UInt8) : Option Bool :=
  match l with
  | [] => none
  | c :: r => if c = 45 then exInt r else exInt (c :: r)

theorem fin_digs (s : Nat) (hs : s = 2 ∨ s = 4 ∨ s = 7) : ∀ l, numFin s l = numFin s (l.dropWhile isDig)
  | [] => rfl
  | c :: r => by
    rw [List.dropWhile_cons]
    cases hd : isDig c with
    | false => rfl
    | true =>
      have : numStep s c = .go s := by
        have all : ∀ s : _root_.Fin 8, (s.val = 2 ∨ s.val = 4 ∨ s.val = 7) → ∀ k : _root_.Fin 256, isDig (UInt8.ofNat k.val) = true → (match numStep s.val (UInt8.ofNat k.val) with | .go s' => decide (s' = s.val) | _ => false) = true := by decide +kernel
        have := byte_all (p := fun c => isDig c = true → (match numStep s c with | .go s' => decide (s' = s) | _ => false) = true) (all ⟨s, by omega⟩ hs) c hd
        cases hn : numStep s c with
        | go s' => rw [hn] at this; simp at this; rw [this]
        | done => rw [hn] at this; cases this
        | bad => rw [hn] at this; cases this
      simp only [numFin, this, if_true]
      exact fin_digs s hs r

theorem drop_head {l : List UInt8} {c : UInt8} {r : List UInt8} (h : l.dropWhile isDig = c :: r) : isDig c = false := by
  induction l with
  | nil => cases h
  | cons x l ih =>
    rw [List.dropWhile_cons] at h
    split at h
    · exact ih h
    · injection h with h1 _; subst h1; simp_all

/-- Does a number end behind these bytes? -/
def endB (o : Option Nat) : Bool := match o with | some s => numEnds s | none => false

theorem end_digs (l : List UInt8) : endB (numFin 7 l) = (l.dropWhile isDig).isEmpty := by
  rw [fin_digs 7 (by omega)]
  cases h : l.dropWhile isDig with
  | nil => rfl
  | cons c r =>
    have hd := drop_head h
    have : endB (match numStep 7 c with | .go s' => numFin s' r | _ => none) = false := by
      cases hn : numStep 7 c with
      | go s' =>
        exfalso
        revert hd hn
        have : ∀ k : _root_.Fin 256, isDig (UInt8.ofNat k.val) = false → (match numStep 7 (UInt8.ofNat k.val) with | .go _ => false | _ => true) = true := by decide +kernel
        have := byte_all (p := fun c => isDig c = false → (match numStep 7 c with | .go _ => false | _ => true) = true) this c
        intro hd hn
        have := this hd
        rw [hn] at this
        cases this
      | done => rfl
      | bad => rfl
    simpa [numFin] using this

def headB (s : Nat) (c : UInt8) : Option Nat := match numStep s c with | .go s' => some s' | _ => none

theorem fin_head (s : Nat) (c : UInt8) (r : List UInt8) : numFin s (c :: r) = (headB s c).bind (fun s' => numFin s' r) := by
  simp only [numFin, headB]
  cases numStep s c <;> rfl

theorem head5 : ∀ c, headB 5 c = if c = 43 ∨ c = 45 then some 6 else if isDig c then some 7 else none := byte_all (p := fun c => headB 5 c = if c = 43 ∨ c = 45 then some 6 else if isDig c then some 7 else none) (by decide +kernel)
theorem head6 : ∀ c, headB 6 c = if isDig c then some 7 else none := byte_all (p := fun c => headB 6 c = if isDig c then some 7 else none) (by decide +kernel)
theorem head3 : ∀ c, headB 3 c = if isDig c then some 4 else none := byte_all (p := fun c => headB 3 c = if isDig c then some 4 else none) (by decide +kernel)
theorem head0 : ∀ c, headB 0 c = if c = 48 then some 1 else if isDig c then some 2 else none := byte_all (p := fun c => headB 0 c = if c = 48 then some 1 else if isDig c then some 2 else none) (by decide +kernel)
theorem head4 : ∀ c, isDig c = false → headB 4 c = if isExp c then some 5 else none := byte_all (p := fun c => isDig c = false → headB 4 c = if isExp c then some 5 else none) (by decide +kernel)
theorem head1 : ∀ c, headB 1 c = if c = 46 then some 3 else if isExp c then some 5 else none := byte_all (p := fun c => headB 1 c = if c = 46 then some 3 else if isExp c then some 5 else none) (by decide +kernel)
theorem head2 : ∀ c, isDig c = false → headB 2 c = if c = 46 then some 3 else if isExp c then some 5 else none := byte_all (p := fun c => isDig c = false → headB 2 c = if c = 46 then some 3 else if isExp c then some 5 else none) (by decide +kernel)

theorem end_exp (l : List UInt8) : endB (numFin 5 l) = (match l with
    | [] => false
    | d :: r' => if d = 43 ∨ d = 45 then (match r' with | [] => false | e :: r'' => isDig e && (r''.dropWhile isDig).isEmpty) else isDig d && (r'.dropWhile isDig).isEmpty) := by
  cases l with
  | nil => rfl
  | cons d r =>
    rw [fin_head, head5]
    split
    · rename_i hd
      simp only [hd, if_true, Option.bind_some]
      cases r with
      | nil => rfl
      | cons e r =>
        rw [fin_head, head6]
        cases he : isDig e with
        | true => simp only [if_true, Option.bind_some, he, Bool.true_and]; exact end_digs r
        | false => simp [he, endB]
    · rename_i hd
      simp only [if_neg hd]
      cases he : isDig d with
      | true => simp only [if_true, Option.bind_some, Bool.true_and]; exact end_digs r
      | false => rfl

/-- Behind an integer's or a fraction's digits. -/
theorem end_tail4 (l : List UInt8) (h : ∀ c r, l = c :: r → isDig c = false) : endB (numFin 4 l) = exExp l := by
  cases l with
  | nil => rfl
  | cons c r =>
    rw [fin_head, head4 c (h c r rfl)]
    simp only [exExp]
    cases he : isExp c with
    | true => simp only [if_true, Option.bind_some, Bool.true_and]; exact end_exp r
    | false => rfl

theorem end_tail (s : Nat) (hs : s = 1 ∨ s = 2) (l : List UInt8) (h : ∀ c r, l = c :: r → isDig c = false) : endB (numFin s l) = exFrac l ∧ (∀ s', numFin s l = some s' → numEnds s' = true → decide (2 < s') = !l.isEmpty) := by
  cases l with
  | nil => rcases hs with rfl | rfl <;> refine ⟨rfl, ?_⟩ <;> intro s' h1 h2 <;> injection h1 with h1 <;> subst h1 <;> rfl
  | cons c r =>
    have hh : headB s c = if c = 46 then some 3 else if isExp c then some 5 else none := by
      rcases hs with rfl | rfl
      · exact head1 c
      · exact head2 c (h c r rfl)
    have hgt : ∀ (l : List UInt8) (s s' : Nat), 3 ≤ s → s ≤ 7 → numFin s l = some s' → 3 ≤ s' := by
      intro l
      induction l with
      | nil => intro s s' h1 _ h2; injection h2 with h2; omega
      | cons c r ih =>
        intro s s' h1 h7 h2
        simp only [numFin] at h2
        cases hn : numStep s c with
        | go s2 =>
          rw [hn] at h2
          have all : ∀ s : _root_.Fin 8, ∀ k : _root_.Fin 256, 3 ≤ s.val → (match numStep s.val (UInt8.ofNat k.val) with | .go s' => decide (3 ≤ s') && decide (s' ≤ 7) | _ => true) = true := by decide +kernel
          have := byte_all (p := fun c => 3 ≤ s → (match numStep s c with | .go s' => decide (3 ≤ s') && decide (s' ≤ 7) | _ => true) = true) (all ⟨s, by omega⟩) c h1
          rw [hn] at this
          simp at this
          exact ih s2 s' this.1 this.2 h2
        | done => rw [hn] at h2; cases h2
        | bad => rw [hn] at h2; cases h2
    refine ⟨?_, ?_⟩
    · rw [fin_head, hh]
      simp only [exFrac]
      by_cases h46 : c = 46
      · simp only [if_pos h46, Option.bind_some]
        cases r with
        | nil => rfl
        | cons d r =>
          rw [fin_head, head3]
          cases hd : isDig d with
          | false => simp [hd, endB]
          | true =>
            simp only [if_true, Option.bind_some, hd, Bool.true_and]
            rw [fin_digs 4 (by omega)]
            exact end_tail4 _ (fun c r h => drop_head h)
      · simp only [if_neg h46, exExp]
        cases he : isExp c with
        | true => simp only [if_true, Option.bind_some, Bool.true_and]; exact end_exp r
        | false => rfl
    · intro s' h1 h2
      rw [fin_head, hh] at h1
      have : 3 ≤ s' := by
        by_cases h46 : c = 46
        · rw [if_pos h46] at h1
          exact hgt r 3 s' (by omega) (by omega) h1
        · rw [if_neg h46] at h1
          cases he : isExp c with
          | true => rw [he] at h1; exact hgt r 5 s' (by omega) (by omega) h1
          | false => rw [he] at h1; cases h1
      simp
      omega

theorem exInt_fin (l : List UInt8) : exInt l = (match numFin 0 l with | some s => if numEnds s then some (!decide (2 < s)) else none | none => none) := by
  cases l with
  | nil => rfl
  | cons c r =>
    rw [fin_head, head0]
    simp only [exInt]
    have fin : ∀ s, s = 1 ∨ s = 2 → ∀ l : List UInt8, (∀ c r, l = c :: r → isDig c = false) → (if exFrac l = true then some l.isEmpty else none) = (match numFin s l with | some s => if numEnds s then some (!decide (2 < s)) else none | none => none) := by
      intro s hs l hl
      obtain ⟨h1, h2⟩ := end_tail s hs l hl
      cases hf : numFin s l with
      | none =>
        have h3 : exFrac l = false := by rw [← h1, hf]; rfl
        rw [h3]
        rfl
      | some s' =>
        have h3 : exFrac l = numEnds s' := by rw [← h1, hf]; rfl
        rw [h3]
        by_cases he : numEnds s' = true
        · have := h2 s' hf he
          simp only [he, if_true]
          simp [this]
        · simp [he]
    by_cases h48 : c = 48
    · subst h48
      rw [if_pos (by decide)]
      simp only [if_true, Option.bind_some, true_and]
      cases r with
      | nil => rfl
      | cons d r =>
        cases hd : isDig d with
        | true =>
          have e1 : List.takeWhile isDig (d :: r) ≠ [] := by rw [List.takeWhile_cons, hd]; simp
          rw [if_pos e1, fin_head, head1]
          have : d ≠ 46 ∧ isExp d = false := by
            revert hd
            refine byte_all (p := fun d => isDig d = true → d ≠ 46 ∧ isExp d = false) ?_ d
            decide +kernel
          simp [this.1, this.2]
        | false =>
          have e1 : List.takeWhile isDig (d :: r) = [] := by rw [List.takeWhile_cons, hd]; simp
          have e2 : List.dropWhile isDig (d :: r) = d :: r := by rw [List.dropWhile_cons, hd]; simp
          rw [if_neg (by simp [e1]), e2]
          exact fin 1 (by omega) (d :: r) (by intro c' r' h; injection h with h _; subst h; exact hd)
    · simp only [h48, false_and, if_false]
      cases hd : isDig c with
      | false => rfl
      | true =>
        simp only [if_true, Option.bind_some]
        rw [fin_digs 2 (by omega)]
        exact fin 2 (by omega) _ (fun c r h => drop_head h)

theorem numFin_start (c : UInt8) (h : c = 45 ∨ isDig c = true) (r : List UInt8) : exNum (c :: r) = (match numFin (numStart c) r with | some s => if numEnds s then some (!decide (2 < s)) else none | none => none) := by
  simp only [exNum]
  rcases h with h | h
  · subst h
    simp only [if_true]
    exact exInt_fin r
  · have h45 : c ≠ 45 := by rintro rfl; revert h; decide
    rw [if_neg h45, exInt_fin, fin_head, head0]
    unfold numStart
    rw [if_neg h45]
    by_cases h48 : c = 48
    · simp [h48]
    · simp [h48, h]

/-! ### Integers -/

def decVal : Nat → List UInt8 → Nat
  | n, [] => n
  | n, c :: r => decVal (n * 10 + (c.toNat - 48)) r

theorem decVal_ge : ∀ (l : List UInt8) (n : Nat), n ≤ decVal n l
  | [], n => Nat.le_refl n
  | c :: r, n => Nat.le_trans (by omega) (decVal_ge r _)

theorem parseM_digs (M : Nat) (hM : M = 2 ^ 64 - 1) (l : List UInt8) : ∀ n : Nat, (∀ c ∈ l, isDig c = true) → n ≤ M → Lib.parseUintM M n l = if decVal n l ≤ M then .ok (decVal n l) else .range := by
  have hM2 : M = 18446744073709551615 := hM.trans (by decide)
  clear hM
  induction l with
  | nil =>
    intro n _ hn
    have e : decVal n [] = n := rfl
    rw [e, if_pos hn]
    rfl
  | cons c r ih =>
    intro n h hn
    have hc : 48 ≤ c.toNat ∧ c.toNat ≤ 57 := of_decide_eq_true (h c (by simp))
    have e : decVal n (c :: r) = decVal (n * 10 + (c.toNat - 48)) r := rfl
    have hge := decVal_ge r (n * 10 + (c.toNat - 48))
    rw [Lib.parseUintM, if_pos hc, e]
    by_cases h1 : 1844674407370955162 ≤ n
    · rw [if_pos h1, if_neg (by omega)]
    · rw [if_neg h1]
      by_cases h2 : M < n * 10 + (c.toNat - 48)
      · rw [if_pos h2, if_neg (by omega)]
      · rw [if_neg h2]
        exact ih _ (fun x hx => h x (by simp [hx])) (by omega)

/-- An integer of 64 bits, by its sign and its digits. -/
def int64Of (neg : Bool) (ds : List UInt8) : Option Int :=
  if neg then (if decVal 0 ds ≤ 9223372036854775808 then some (-(decVal 0 ds : Int)) else none)
  else if decVal 0 ds < 9223372036854775808 then some (decVal 0 ds : Int) else none

def okInt (r : Lib.NumEnd Int) : Option Int := match r with | .ok v => some v | _ => none

theorem parse_digs (ds : List UInt8) (h0 : ds ≠ []) (hd : ∀ c ∈ ds, isDig c = true) : okInt (Lib.parseIntB 64 ds) = int64Of false ds := by
  cases ds with
  | nil => exact absurd rfl h0
  | cons c r =>
    have hc : 48 ≤ c.toNat ∧ c.toNat ≤ 57 := of_decide_eq_true (hd c (by simp))
    have e := parseM_digs (2 ^ 64 - 1) rfl (c :: r) 0 hd (by omega)
    unfold Lib.parseIntB
    simp only
    rw [if_neg (by omega)]
    unfold Lib.parseUintB
    rw [if_neg (by simp), e]
    unfold int64Of
    by_cases h1 : decVal 0 (c :: r) ≤ 2 ^ 64 - 1
    · rw [if_pos h1]
      simp only
      by_cases h2 : decVal 0 (c :: r) < 9223372036854775808
      · rw [if_neg (by omega), if_neg (by omega), if_neg (by omega), if_neg (by decide), if_pos h2]
        rfl
      · rw [if_pos ⟨by omega, by simp; omega⟩, if_neg (by decide), if_neg h2]
        rfl
    · rw [if_neg h1, if_neg (by decide), if_neg (by omega)]
      rfl

theorem parse_minus (ds : List UInt8) (h0 : ds ≠ []) (hd : ∀ c ∈ ds, isDig c = true) : okInt (Lib.parseIntB 64 (45 :: ds)) = int64Of true ds := by
  have e := parseM_digs (2 ^ 64 - 1) rfl ds 0 hd (by omega)
  unfold Lib.parseIntB
  simp only
  rw [if_pos (by decide)]
  unfold Lib.parseUintB
  rw [if_neg h0, e]
  unfold int64Of
  rw [if_pos (show (true = true) from rfl)]
  by_cases h1 : decVal 0 ds ≤ 2 ^ 64 - 1
  · rw [if_pos h1]
    simp only
    by_cases h2 : decVal 0 ds ≤ 9223372036854775808
    · rw [if_neg (by rintro ⟨h, _⟩; exact h (by decide)), if_neg (by rintro ⟨_, h⟩; simp at h; omega), if_pos (by decide), if_pos h2]
      rfl
    · rw [if_neg (by rintro ⟨h, _⟩; exact h (by decide)), if_pos ⟨by decide, by simp; omega⟩, if_neg h2]
      rfl
  · rw [if_neg h1, if_neg (by omega)]
    rfl

/-- What a number's text stands for. -/
def exTV (pf : PF) (txt : List UInt8) : Option TV :=
  match exNum txt with
  | none => none
  | some whole =>
    match (if whole then okInt (Lib.parseIntB 64 txt) else none) with
    | some v => if v < -2147483648 ∨ 2147483647 < v then some (.i64 v) else some (.i32 v)
    | none => match pf txt with | some (some b) => some (.f64 b) | _ => none

def kindOf : TV → Nat
  | .i32 _ => 6
  | .i64 _ => 7
  | _ => 8

/-- What the scanner reads of a number is what the reference reads. -/
theorem numSub_ex (pf : PF) (c : UInt8) (hc : c = 45 ∨ isDig c = true) (r : List UInt8) (hr : r.length < 1000000) (hp : ∀ txt, exNum txt ≠ none → txt.length ≤ 1000000 → pf txt ≠ none) :
    numSub pf c r = (match exTV pf (c :: r.takeWhile stopB) with | some v => .tok (kindOf v) v (r.dropWhile stopB) | none => .err) := by
  have h7 : numStart c ≤ 7 := by unfold numStart; split <;> (try split) <;> omega
  unfold numSub
  rw [numRun_span r [c] (numStart c) h7]
  unfold exTV
  rw [numFin_start c hc]
  cases hf : numFin (numStart c) (r.takeWhile stopB) with
  | none => rfl
  | some s =>
    simp only [numOut]
    cases he : numEnds s with
    | false => rfl
    | true =>
      simp only [if_true, numEnd, numVal, List.singleton_append]
      have hx : exNum (c :: r.takeWhile stopB) ≠ none := by rw [numFin_start c hc, hf]; simp [he]
      have hpn := hp _ hx (by have := congrArg List.length (List.takeWhile_append_dropWhile (p := stopB) (l := r)); rw [List.length_append] at this; simp only [List.length_cons]; omega)
      have hfl : numFloat pf (c :: r.takeWhile stopB) (r.dropWhile stopB) = (match (match pf (c :: r.takeWhile stopB) with | some (some b) => some (TV.f64 b) | _ => none) with | some v => SubEnd.tok (kindOf v) v (r.dropWhile stopB) | none => .err) := by
        unfold numFloat
        cases hq : pf (c :: r.takeWhile stopB) with
        | none => exact absurd hq hpn
        | some o => cases o <;> rfl
      cases hd : decide (2 < s) with
      | true => simpa using hfl
      | false =>
        simp only [Bool.not_false, if_true, Bool.false_eq_true, if_false]
        cases hq : Lib.parseIntB 64 (c :: r.takeWhile stopB) with
        | ok v =>
          simp only [okInt]
          split <;> rfl
        | range => exact hfl
        | _ => exact hfl

/-! ### Words -/

/-- What stands behind a word, if the text begins with it. -/
def preW : List UInt8 → List UInt8 → Option (List UInt8)
  | [], l => some l
  | _ :: _, [] => none
  | a :: w, c :: l => if c = a then preW w l else none

def wordF : List UInt8 := [102, 97, 108, 115, 101]
def wordT : List UInt8 := [116, 114, 117, 101]
def wordN : List UInt8 := [110, 117, 108, 108]

def wordX (w : List UInt8) (k : Nat) (v : TV) (l : List UInt8) : SubEnd :=
  match preW w l with
  | none => .err
  | some r => wordEnd k v r

theorem lit_f (r : List UInt8) : litRun 102 r = wordX wordF 10 (.bool false) (102 :: r) := by
  match r with
  | [] => rfl
  | [a] => simp [litRun, wordX, wordF, preW]
  | [a, b] => simp [litRun, wordX, wordF, preW]
  | a :: b :: d :: rest =>
    by_cases ha : a = 97
    · by_cases hb : b = 108
      · by_cases hd : d = 115
        · subst ha hb hd
          cases rest with
          | nil => rfl
          | cons e rest =>
            by_cases he : e = 101
            · subst he; rfl
            · simp [litRun, wordX, wordF, preW, he]
        · simp [litRun, wordX, wordF, preW, hd]
      · simp [litRun, wordX, wordF, preW, hb]
    · simp [litRun, wordX, wordF, preW, ha]

theorem lit_t (r : List UInt8) : litRun 116 r = wordX wordT 10 (.bool true) (116 :: r) := by
  match r with
  | [] => rfl
  | [a] => simp [litRun, wordX, wordT, preW]
  | [a, b] => simp [litRun, wordX, wordT, preW]
  | a :: b :: d :: rest =>
    by_cases ha : a = 114
    · by_cases hb : b = 117
      · by_cases hd : d = 101
        · subst ha hb hd; rfl
        · simp [litRun, wordX, wordT, preW, hd]
      · simp [litRun, wordX, wordT, preW, hb]
    · simp [litRun, wordX, wordT, preW, ha]

theorem lit_n (r : List UInt8) : litRun 110 r = wordX wordN 11 .nul (110 :: r) := by
  match r with
  | [] => rfl
  | [a] => simp [litRun, wordX, wordN, preW]
  | [a, b] => simp [litRun, wordX, wordN, preW]
  | a :: b :: d :: rest =>
    by_cases ha : a = 117
    · by_cases hb : b = 108
      · by_cases hd : d = 108
        · subst ha hb hd; rfl
        · simp [litRun, wordX, wordN, preW, hd]
      · simp [litRun, wordX, wordN, preW, hb]
    · simp [litRun, wordX, wordN, preW, ha]

end Go.Proofs.YtdabllkphibfmaaGreatDoor
