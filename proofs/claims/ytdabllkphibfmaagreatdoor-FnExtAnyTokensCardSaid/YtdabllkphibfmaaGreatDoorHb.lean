/- leftShift's arithmetic: plain. -/
import Derived.Test.YtdabllkphibfmaaGreatDoorHa
namespace Go.Proofs.YtdabllkphibfmaaGreatDoor
open Go Go.RowKit
set_option linter.unusedSimpArgs false
set_option linter.unusedVariables false

/-- The number of m digits from the i-th on. -/
def valN (d : Nat → Nat) : Nat → Nat → Nat
  | _, 0 => 0
  | i, m + 1 => (d i - 48) * 10 ^ m + valN d (i + 1) m

theorem valN_lt {d : Nat → Nat} {nd : Nat} (h : DigOk d nd) : ∀ m i, i + m ≤ nd → valN d i m < 10 ^ m
  | 0, _, _ => by simp [valN]
  | m + 1, i, hi => by
    have := valN_lt h m (i + 1) (by omega)
    have hd := h i (by omega)
    have h9 : (d i - 48) * 10 ^ m ≤ 9 * 10 ^ m := Nat.mul_le_mul_right _ (by omega)
    rw [valN, Nat.pow_succ]
    omega

/-- The number that a text of digits spells. -/
def valS : List UInt8 → Nat
  | [] => 0
  | c :: r => (c.toNat - 48) * 10 ^ r.length + valS r

def CutOk (l : List UInt8) : Prop := (∀ c ∈ l, 48 ≤ c.toNat ∧ c.toNat ≤ 57) ∧ (l ≠ [] → l.getLast? ≠ some 48)

theorem CutOk.tail {c : UInt8} {l : List UInt8} (h : CutOk (c :: l)) : CutOk l := by
  refine ⟨fun x hx => h.1 x (List.mem_cons_of_mem _ hx), fun hl => ?_⟩
  have := h.2 (by simp)
  rwa [List.getLast?_cons_of_ne_nil hl] at this

theorem valS_lt {l : List UInt8} (h : CutOk l) : valS l < 10 ^ l.length := by
  induction l with
  | nil => simp [valS]
  | cons c l ih =>
    have := ih h.tail
    have hc := h.1 c (by simp)
    have h9 : (c.toNat - 48) * 10 ^ l.length ≤ 9 * 10 ^ l.length := Nat.mul_le_mul_right _ (by omega)
    rw [valS, List.length_cons, Nat.pow_succ]
    omega

theorem valS_pos {l : List UInt8} (h : CutOk l) (hl : l ≠ []) : 0 < valS l := by
  induction l with
  | nil => exact absurd rfl hl
  | cons c l ih =>
    rw [valS]
    by_cases h0 : l = []
    · subst h0
      have h1 := h.2 (by simp)
      have h2 := h.1 c (by simp)
      have h3 : c.toNat ≠ 48 := by
        intro h3
        exact h1 (by simp; exact UInt8.toNat_inj.1 h3)
      simp [valS]
      omega
    · have := ih h.tail h0
      omega

theorem plt_true {d : Nat → Nat} {nd : Nat} (hd : DigOk d nd) : ∀ (l : List UInt8) (i m : Nat), CutOk l → i + m = nd → pltF d nd l i = true → valN d i m * 10 ^ l.length < valS l * 10 ^ m
  | [], i, m, _, _, h => by simp [pltF] at h
  | c :: r, i, m, hc, hi, h => by
    have hpos := valS_pos hc (by simp)
    rw [pltF] at h
    cases m with
    | zero => simp [valN]; exact hpos
    | succ m =>
      rw [if_neg (by omega)] at h
      have hdi := hd i (by omega)
      have hci := hc.1 c (by simp)
      have hv := valN_lt hd m (i + 1) (by omega)
      rw [valN, valS, List.length_cons]
      by_cases he : d i = c.toNat
      · rw [if_pos he] at h
        have ih := plt_true hd r (i + 1) m hc.tail (by omega) h
        rw [he, Nat.pow_succ, Nat.pow_succ, Nat.add_mul, Nat.add_mul]
        have e1 : (c.toNat - 48) * 10 ^ m * (10 ^ r.length * 10) = (c.toNat - 48) * 10 ^ r.length * (10 ^ m * 10) := by ac_rfl
        have e2 : valN d (i + 1) m * (10 ^ r.length * 10) = valN d (i + 1) m * 10 ^ r.length * 10 := by ac_rfl
        have e3 : valS r * (10 ^ m * 10) = valS r * 10 ^ m * 10 := by ac_rfl
        rw [e1, e2, e3]
        omega
      · rw [if_neg he] at h
        have hlt := of_decide_eq_true h
        have h1 : (d i - 48) * 10 ^ m + valN d (i + 1) m < (c.toNat - 48) * 10 ^ m := by
          have : (d i - 48 + 1) * 10 ^ m ≤ (c.toNat - 48) * 10 ^ m := Nat.mul_le_mul_right _ (by omega)
          rw [Nat.add_mul] at this
          omega
        have h2 : ((d i - 48) * 10 ^ m + valN d (i + 1) m) * 10 ^ (r.length + 1) < (c.toNat - 48) * 10 ^ m * 10 ^ (r.length + 1) := Nat.mul_lt_mul_of_pos_right h1 (Nat.pow_pos (by decide))
        have e1 : (c.toNat - 48) * 10 ^ m * 10 ^ (r.length + 1) = (c.toNat - 48) * 10 ^ r.length * 10 ^ (m + 1) := by
          rw [Nat.pow_succ, Nat.pow_succ]; ac_rfl
        rw [e1] at h2
        rw [Nat.add_mul ((c.toNat - 48) * 10 ^ r.length)]
        omega

theorem plt_false {d : Nat → Nat} {nd : Nat} (hd : DigOk d nd) : ∀ (l : List UInt8) (i m : Nat), CutOk l → i + m = nd → pltF d nd l i = false → valS l * 10 ^ m ≤ valN d i m * 10 ^ l.length
  | [], i, m, _, _, h => by simp [valS]
  | c :: r, i, m, hc, hi, h => by
    rw [pltF] at h
    cases m with
    | zero => rw [if_pos (by omega)] at h; cases h
    | succ m =>
      rw [if_neg (by omega)] at h
      have hdi := hd i (by omega)
      have hci := hc.1 c (by simp)
      have hv := valS_lt hc.tail
      rw [valN, valS, List.length_cons]
      by_cases he : d i = c.toNat
      · rw [if_pos he] at h
        have ih := plt_false hd r (i + 1) m hc.tail (by omega) h
        rw [he, Nat.pow_succ, Nat.pow_succ, Nat.add_mul, Nat.add_mul]
        have e1 : (c.toNat - 48) * 10 ^ m * (10 ^ r.length * 10) = (c.toNat - 48) * 10 ^ r.length * (10 ^ m * 10) := by ac_rfl
        have e2 : valN d (i + 1) m * (10 ^ r.length * 10) = valN d (i + 1) m * 10 ^ r.length * 10 := by ac_rfl
        have e3 : valS r * (10 ^ m * 10) = valS r * 10 ^ m * 10 := by ac_rfl
        rw [e1, e2, e3]
        omega
      · rw [if_neg he] at h
        have hlt : c.toNat < d i := by
          have := of_decide_eq_false h
          omega
        have h1 : (c.toNat - 48) * 10 ^ r.length + valS r ≤ (d i - 48) * 10 ^ r.length := by
          have : (c.toNat - 48 + 1) * 10 ^ r.length ≤ (d i - 48) * 10 ^ r.length := Nat.mul_le_mul_right _ (by omega)
          rw [Nat.add_mul] at this
          omega
        have h2 : ((c.toNat - 48) * 10 ^ r.length + valS r) * 10 ^ (m + 1) ≤ (d i - 48) * 10 ^ r.length * 10 ^ (m + 1) := Nat.mul_le_mul_right _ h1
        have e1 : (d i - 48) * 10 ^ r.length * 10 ^ (m + 1) = (d i - 48) * 10 ^ m * 10 ^ (r.length + 1) := by
          rw [Nat.pow_succ, Nat.pow_succ]; ac_rfl
        rw [e1] at h2
        rw [Nat.add_mul ((d i - 48) * 10 ^ m)]
        omega

/-- The table of leftShift. -/
structure Cheat (k D : Nat) (l : List UInt8) : Prop where
  ok : CutOk l
  val : valS l = 5 ^ k
  len : l.length + D = k + 1
  hi : 2 ^ k ≤ 10 ^ D
  lo : 10 ^ D ≤ 10 * 2 ^ k
  d1 : 1 ≤ D
  d19 : D ≤ 19

/-- How many digits more a shift gives. -/
def dlt (S : Dec) (D : Nat) (l : List UInt8) : Nat := if pltF S.d S.nd l 0 then D - 1 else D

/-- The carry has just so many digits. -/
theorem carry {S : Dec} {k D : Nat} {l : List UInt8} (hc : Cheat k D l) (hd : DigOk S.d S.nd) (h1 : 1 ≤ S.nd) (h0 : S.d 0 ≠ 48) : valN S.d 0 S.nd * 2 ^ k / 10 ^ S.nd < 10 ^ dlt S D l ∧ (1 ≤ dlt S D l → 10 ^ (dlt S D l - 1) ≤ valN S.d 0 S.nd * 2 ^ k / 10 ^ S.nd) := by
  obtain ⟨hok, hval, hlen, hhi, hlo, hD1, _⟩ := hc
  have hpn : 0 < 10 ^ S.nd := Nat.pow_pos (by decide)
  have hV := valN_lt hd S.nd 0 (by omega)
  have hVlo : 10 ^ (S.nd - 1) ≤ valN S.d 0 S.nd := by
    obtain ⟨m, hm⟩ : ∃ m, S.nd = m + 1 := ⟨S.nd - 1, by omega⟩
    rw [hm, valN, Nat.add_sub_cancel]
    have := hd 0 (by omega)
    have : 1 * 10 ^ m ≤ (S.d 0 - 48) * 10 ^ m := Nat.mul_le_mul_right _ (by omega)
    omega
  have e25 : (5 : Nat) ^ k * 2 ^ k = 10 ^ k := by rw [← Nat.mul_pow]
  have e10 : (10 : Nat) ^ l.length * 10 ^ D = 10 * 10 ^ k := by rw [← Nat.pow_add, hlen, Nat.pow_succ, Nat.mul_comm]
  have hpl : 0 < 10 ^ l.length := Nat.pow_pos (by decide)
  unfold dlt
  cases hp : pltF S.d S.nd l 0 with
  | true =>
    simp only [if_true]
    have h := plt_true hd l 0 S.nd hok (by omega) hp
    rw [hval] at h
    have h2 : valN S.d 0 S.nd * 10 ^ l.length * 2 ^ k < 5 ^ k * 10 ^ S.nd * 2 ^ k := Nat.mul_lt_mul_of_pos_right h (Nat.two_pow_pos k)
    have e1 : 5 ^ k * 10 ^ S.nd * 2 ^ k = 10 ^ k * 10 ^ S.nd := by rw [← e25]; ac_rfl
    obtain ⟨D', rfl⟩ : ∃ D', D = D' + 1 := ⟨D - 1, by omega⟩
    have e3 : (10 : Nat) ^ k = 10 ^ l.length * 10 ^ D' := by
      rw [Nat.pow_succ] at e10
      have : 10 ^ l.length * (10 ^ D' * 10) = 10 ^ l.length * 10 ^ D' * 10 := by ac_rfl
      omega
    rw [Nat.add_sub_cancel]
    refine ⟨?_, fun hd1 => ?_⟩
    · rw [Nat.div_lt_iff_lt_mul hpn]
      rw [e1, e3] at h2
      have e4 : valN S.d 0 S.nd * 10 ^ l.length * 2 ^ k = 10 ^ l.length * (valN S.d 0 S.nd * 2 ^ k) := by ac_rfl
      have e5 : 10 ^ l.length * 10 ^ D' * 10 ^ S.nd = 10 ^ l.length * (10 ^ D' * 10 ^ S.nd) := by ac_rfl
      rw [e4, e5] at h2
      exact Nat.lt_of_mul_lt_mul_left h2
    · rw [Nat.le_div_iff_mul_le hpn]
      have h5 : 10 ^ (S.nd - 1) * 2 ^ k ≤ valN S.d 0 S.nd * 2 ^ k := Nat.mul_le_mul_right _ hVlo
      have h6 : 10 ^ D' ≤ 2 ^ k := by rw [Nat.pow_succ] at hlo; omega
      have h7 : 10 ^ (S.nd - 1) * 10 ^ D' ≤ 10 ^ (S.nd - 1) * 2 ^ k := Nat.mul_le_mul_left _ h6
      have e8 : 10 ^ (D' - 1) * 10 ^ S.nd = 10 ^ (S.nd - 1) * 10 ^ D' := by
        rw [← Nat.pow_add, ← Nat.pow_add]
        congr 1
        omega
      omega
  | false =>
    simp only [Bool.false_eq_true, if_false]
    have h := plt_false hd l 0 S.nd hok (by omega) hp
    rw [hval] at h
    refine ⟨?_, fun hd1 => ?_⟩
    · rw [Nat.div_lt_iff_lt_mul hpn]
      have h5 : valN S.d 0 S.nd * 2 ^ k ≤ valN S.d 0 S.nd * 10 ^ D := Nat.mul_le_mul_left _ hhi
      have h6 : valN S.d 0 S.nd * 10 ^ D < 10 ^ S.nd * 10 ^ D := Nat.mul_lt_mul_of_pos_right hV (Nat.pow_pos (by decide))
      have e : 10 ^ S.nd * 10 ^ D = 10 ^ D * 10 ^ S.nd := Nat.mul_comm _ _
      omega
    · rw [Nat.le_div_iff_mul_le hpn]
      have h2 : 5 ^ k * 10 ^ S.nd * 2 ^ k ≤ valN S.d 0 S.nd * 10 ^ l.length * 2 ^ k := Nat.mul_le_mul_right _ h
      have e1 : 5 ^ k * 10 ^ S.nd * 2 ^ k = 10 ^ k * 10 ^ S.nd := by rw [← e25]; ac_rfl
      obtain ⟨D', rfl⟩ : ∃ D', D = D' + 1 := ⟨D - 1, by omega⟩
      have e3 : (10 : Nat) ^ k = 10 ^ l.length * 10 ^ D' := by
        rw [Nat.pow_succ] at e10
        have : 10 ^ l.length * (10 ^ D' * 10) = 10 ^ l.length * 10 ^ D' * 10 := by ac_rfl
        omega
      rw [Nat.add_sub_cancel]
      rw [e1, e3] at h2
      have e4 : valN S.d 0 S.nd * 10 ^ l.length * 2 ^ k = 10 ^ l.length * (valN S.d 0 S.nd * 2 ^ k) := by ac_rfl
      have e5 : 10 ^ l.length * 10 ^ D' * 10 ^ S.nd = 10 ^ l.length * (10 ^ D' * 10 ^ S.nd) := by ac_rfl
      rw [e4, e5] at h2
      exact Nat.le_of_mul_le_mul_left h2 hpl

end Go.Proofs.YtdabllkphibfmaaGreatDoor

/- leftShift: one answer. -/
namespace Go.Proofs.YtdabllkphibfmaaGreatDoor
open Go Go.RowKit
set_option linter.unusedSimpArgs false
set_option linter.unusedVariables false

/-- Digits from the last to the first. -/
def ls1 (k D : Nat) : Nat → (Nat → Nat) → Nat → Bool → (Nat → Nat) × Nat × Bool
  | 0, d, n, tr => (d, n, tr)
  | r + 1, d, n, tr => ls1 k D r (if r + D < 800 then upd d (r + D) ((n + (d r - 48) * 2 ^ k) % 10 + 48) else d) ((n + (d r - 48) * 2 ^ k) / 10) (if r + D < 800 then tr else tr || decide (0 < (n + (d r - 48) * 2 ^ k) % 10))

/-- The carry's digits. -/
def ls2 : Nat → (Nat → Nat) → Nat → (Nat → Nat)
  | 0, d, _ => d
  | w + 1, d, n => if n = 0 then d else ls2 w (upd d w (n % 10 + 48)) (n / 10)

def lsF (S : Dec) (k D : Nat) (l : List UInt8) : Dec :=
  let E := dlt S D l
  let p := ls1 k E S.nd S.d 0 S.tr
  Dec.trim { d := ls2 E p.1 p.2.1, nd := min (S.nd + E) 800, dp := S.dp + E, neg := S.neg, tr := p.2.2 }

def Ls1 (g : Nat) (S : Dec) (k E : Nat) (w : World) (m : Nat) (r wv n : Value) (wx : World) : Prop :=
  ∃ (R : Nat) (d' : Nat → Nat) (n' : Nat) (tr : Bool), m = R ∧ r = .int .i64 ((R : Int) - 1) ∧ wv = .int .i64 ((R + E : Nat) : Int) ∧ n = .int .u64 n' ∧ R ≤ S.nd ∧ n' < 2 ^ k ∧ n' = valN S.d R (S.nd - R) * 2 ^ k / 10 ^ (S.nd - R) ∧ (∀ i, i < R → d' i = S.d i) ∧
    ls1 k E R d' n' tr = ls1 k E S.nd S.d 0 S.tr ∧ DecAt g { S with d := d', tr := tr } wx ∧ Below g w wx

def Ls2 (g : Nat) (S : Dec) (w : World) (W0 : Nat) (d0 : Nat → Nat) (n0 : Nat) (tr : Bool) (m : Nat) (wv n : Value) (wx : World) : Prop :=
  ∃ (W : Nat) (d' : Nat → Nat) (n' : Nat), m = W ∧ wv = .int .i64 W ∧ n = .int .u64 n' ∧ W ≤ 19 ∧ n' < 10 ^ W ∧ n' < 1152921504606846976 ∧ ls2 W d' n' = ls2 W0 d0 n0 ∧ DecAt g { S with d := d', tr := tr } wx ∧ Below g w wx

theorem exact_step {d : Nat → Nat} {nd r n T c k : Nat} (hr : r + 1 ≤ nd) (hn : n = valN d (r + 1) (nd - (r + 1)) * 2 ^ k / 10 ^ (nd - (r + 1))) (hT : T = c * 2 ^ k) (hc : d r = c + 48) : (n + T) / 10 = valN d r (nd - r) * 2 ^ k / 10 ^ (nd - r) := by
  have e : nd - r = (nd - (r + 1)) + 1 := by omega
  rw [e, valN, hc, Nat.add_sub_cancel, hn, hT, Nat.pow_succ, ← Nat.div_div_eq_div_mul]
  congr 1
  have hp : 0 < 10 ^ (nd - (r + 1)) := Nat.pow_pos (by decide)
  have e2 : (c * 10 ^ (nd - (r + 1)) + valN d (r + 1) (nd - (r + 1))) * 2 ^ k = valN d (r + 1) (nd - (r + 1)) * 2 ^ k + 10 ^ (nd - (r + 1)) * (c * 2 ^ k) := by
    rw [Nat.add_mul, Nat.add_comm]
    congr 1
    ac_rfl
  rw [e2, Nat.add_mul_div_left _ _ hp]

theorem put_rem {g i n T : Nat} {S : Dec} {w : World} (h : DecAt g S (w.setCell ⟨g, i, none⟩ (.int .u8 (((n + T) % 10 + 48 : Nat) : Int)))) : DecAt g S (w.setCell ⟨g, i, none⟩ (.int .u8 ((n : Int) + (T : Int) - 10 * (((n : Int) + (T : Int)) / 10) + 48))) := by
  have e : (n : Int) + (T : Int) - 10 * (((n : Int) + (T : Int)) / 10) + 48 = (((n + T) % 10 + 48 : Nat) : Int) := by omega
  rw [e]
  exact h

theorem put_rem1 {g i n : Nat} {S : Dec} {w : World} (h : DecAt g S (w.setCell ⟨g, i, none⟩ (.int .u8 ((n % 10 + 48 : Nat) : Int)))) : DecAt g S (w.setCell ⟨g, i, none⟩ (.int .u8 ((n : Int) - 10 * ((n : Int) / 10) + 48))) := by
  have e : (n : Int) - 10 * ((n : Int) / 10) + 48 = ((n % 10 + 48 : Nat) : Int) := by omega
  rw [e]
  exact h

theorem ls2_zero {d : Nat → Nat} : ∀ W, ls2 W d 0 = d
  | 0 => rfl
  | W + 1 => by rw [ls2, if_pos rfl]

theorem setNd2 {g : Nat} {S : Dec} {w : World} (h : DecAt g S w) (n : Nat) (x : Int) (hx : x = n) : DecAt g { S with nd := n } (w.setCell ⟨g, 800, none⟩ (.int .i64 x)) := by
  subst hx
  exact h.setNd n

theorem ls_end {g k D E n' N : Nat} {l : List UInt8} {S : Dec} {w wr w3 : World} {d' d2 : Nat → Nat} {tr : Bool} (hE : E = dlt S D l) (h1 : ls1 k E S.nd S.d 0 S.tr = (d', n', tr)) (h2 : ls2 E d' n' = d2) (hN : N = min (S.nd + E) 800) (hD : DecAt g (Dec.trim { d := d2, nd := N, dp := S.dp + E, neg := S.neg, tr := tr }) w3) (hb : Below g w wr) (hb2 : Below g wr w3) :
    DPost g (lsF S k D l) w (.returned (.tuple #[])) w3 := by
  refine ⟨rfl, ?_, hb.trans hb2⟩
  have e : lsF S k D l = Dec.trim { d := d2, nd := N, dp := S.dp + E, neg := S.neg, tr := tr } := by
    unfold lsF
    simp only [← hE, h1, h2, ← hN]
  rw [e]
  exact hD

theorem ls1_rel {g k E r n T c : Nat} {S : Dec} {w w' : World} {d' : Nat → Nat} {tr tr' : Bool} {d2 : Nat → Nat} (hr : r + 1 ≤ S.nd) (hn2 : n < 2 ^ k) (hT9 : T ≤ 9 * 2 ^ k) (hTT : T = c * 2 ^ k) (hc : S.d r = c + 48) (hex : n = valN S.d (r + 1) (S.nd - (r + 1)) * 2 ^ k / 10 ^ (S.nd - (r + 1))) (hold : ∀ i, i < r + 1 → d' i = S.d i)
    (hls : ls1 k E (r + 1) d' n tr = ls1 k E S.nd S.d 0 S.tr) (hd2 : d2 = if r + E < 800 then upd d' (r + E) ((n + T) % 10 + 48) else d') (htr : tr' = if r + E < 800 then tr else tr || decide (0 < (n + T) % 10)) (hD : DecAt g { S with d := d2, tr := tr' } w') (hb : Below g w w') :
    Ls1 g S k E w r (.int .i64 ((r : Int) - 1)) (.int .i64 ((r : Int) + 1 + (E : Int) - 1)) (.int .u64 (((n : Int) + (T : Int)) / 10)) w' := by
  refine ⟨r, d2, (n + T) / 10, tr', rfl, rfl, ?_, ?_, by omega, by omega, exact_step hr hex hTT hc, ?_, ?_, hD, hb⟩
  · congr 1; omega
  · congr 1
  · intro i hi
    rw [hd2]
    split
    · unfold upd
      rw [if_neg (by omega)]
      exact hold i (by omega)
    · exact hold i (by omega)
  · rw [← hls, ls1, hold r (by omega), hc, Nat.add_sub_cancel, ← hTT, hd2, htr]

theorem plt_quiet {d : Nat → Nat} {nd g cap : Nat} {s : ByteArray} {w : World} {q : Nat} (hnd : nd ≤ 800) (hs : s.size ≤ 1000) (hd : ∀ i, i < nd → w.cell? ⟨g, i, none⟩ = some (.int .u8 (d i))) (b : Bool) (hb : b = pltF d nd s.data.toList 0) :
    Calls Tryz.prog 137 #[.slice (some ⟨g, 0, none⟩) nd cap, .string s] (w.drewN q) fun e w' => e = .returned (.bool b) ∧ ∃ m, w' = (w.drewN q).drewN m := by
  subst hb
  exact (plt d nd g cap s (w.drewN q) hnd hs hd).mono fun _ _ ⟨h1, h2⟩ => ⟨h1, h2⟩

theorem arr186 : Tryz.prog.underlying 186 = some (.array (Tryz.prog.arrayLen 186) (Tryz.prog.elem 186)) := by kernel_rfl
theorem len186 : Tryz.prog.arrayLen 186 = 800 := by kernel_rfl
theorem size186 (w : World) : (sizeOf (Tryz.prog.elem 186)).run Tryz.prog w = .ok 1 w := by kernel_rfl

theorem slice_dec (g n : Nat) (hn : n ≤ 800) (w : World) : (Instr.sliceAt 186 (.pointer (some ⟨g, 0, none⟩)) (some (.int .i64 0)) (some (.int .i64 n)) none).run Tryz.prog w = .ok (.slice (some ⟨g, 0, none⟩) n 800) w := by
  rw [run_sliceAt_array_lh w 186 ⟨g, 0, none⟩ arr186 .i64 .i64 0 n (by omega) (by omega) (by rw [len186]; omega), size186, len186]
  simp [slicedAt, Result.andThen, Addr.add]

set_option maxRecDepth 1000000 in
set_option maxHeartbeats 8000000 in
theorem leftShift (g : Nat) (S : Dec) (k D : Nat) (l : List UInt8) (a : Addr) (c : Nat) (w : World) (h : DecAt g S w) (hn : S.nd ≤ 800) (hd : DigOk S.d S.nd) (h1 : 1 ≤ S.nd) (h0 : S.d 0 ≠ 48) (hk : 1 ≤ k ∧ k ≤ 60) (hdp : -1000000000 ≤ S.dp ∧ S.dp ≤ 1000000000)
    (hc : Cheat k D l) (hll : l.length ≤ 100) (ht : w.cell? ⟨16, 0, none⟩ = some (.slice (some a) 61 c)) (ht1 : w.cell? (a.add (k * 2)) = some (.int .i64 D)) (ht2 : w.cell? ⟨(a.add (k * 2)).block, (a.add (k * 2)).off + 1, none⟩ = some (.string ⟨l.toArray⟩)) (hg16 : 16 < g) (hag : a.block < g) :
    Calls Tryz.prog 130 #[.pointer (some ⟨g, 0, none⟩), .int .u64 k] w (DPost g (lsF S k D l) w) := by
  have H := Lib.hid h
  have HDG := Lib.hid hd
  obtain ⟨f1, f2, f3, f4, f5, f6⟩ := h.facts
  have HF6 := Lib.hid f6
  have hD19 := hc.d19
  have hD1 := hc.d1
  have HC := Lib.hid hc
  obtain ⟨lb, hlb⟩ : ∃ lb : ByteArray, lb = ⟨l.toArray⟩ := ⟨_, rfl⟩
  rw [← hlb] at ht2
  have hls : lb.size ≤ 1000 := by rw [hlb]; simp [ByteArray.size]; omega
  have hlt : lb.data.toList = l := by rw [hlb]
  have HLT := Lib.hid hlt
  clear h hd f6 hc hlb hlt
  have hpk : (2 : Nat) ^ k ≤ 1152921504606846976 := by
    have := Nat.pow_le_pow_right (n := 2) (by decide) hk.2
    simpa using this
  have hpos : 2 ≤ (2 : Nat) ^ k := by
    have := Nat.pow_le_pow_right (n := 2) (by decide) hk.1
    simpa using this
  obtain ⟨B, hB⟩ : ∃ B, B = pltF S.d S.nd l 0 := ⟨_, rfl⟩
  have HB := Lib.hid hB
  have HPL := Lib.hid (fun q => plt_quiet (cap := 800) (q := q) hn hls (fun i hi => HF6.out i (by omega)) B (by rw [HLT.out]; exact hB))
  have hsl := slice_dec g S.nd hn
  have hki : (k : Int) < 61 := by omega
  have hkn : k < 61 := by omega
  have hkd : decide ((k : Int) < 61) = true := decide_eq_true hki
  clear hB
  go_enter Tryz.func130, Tryz.ntmps130
  go_upto_region 1 with fail
  go_quiet ((go_at_call 137; exact Calls.quiet_of (HPL.out _)))
  obtain ⟨E, hE⟩ : ∃ E, E = dlt S D l := ⟨_, rfl⟩
  have HE := Lib.hid hE
  go_upto_if 30 with fail
  go_cut [4] (fun v wx => v = .int .i64 E ∧ ∃ q, wx = w.drewN q)
  case first =>
    cases B
    · have e1 : E = D := by rw [hE]; unfold dlt; rw [← HB.out]; rfl
      subst e1
      go_wp2
      go_meet
      exact ⟨rfl, nq, rfl⟩
    · have e1 : E = D - 1 := by rw [hE]; unfold dlt; rw [← HB.out]; rfl
      have e2 : (D : Int) - 1 = (E : Nat) := by omega
      clear e1 hE
      go_wp2
      go_meet
      exact ⟨rfl, nq, rfl⟩
  case rest =>
    obtain ⟨rfl, q0, rfl⟩ := hcut
    have hE19 : E ≤ 19 := by rw [hE]; unfold dlt; split <;> omega
    clear hE
    go_wp2
    go_loopg [5, 6, 7] S.nd (fun m r wv n wx => Aside (Ls1 g S k E w m r wv n wx))
    case atStart => exact ⟨S.nd, S.d, 0, S.tr, rfl, rfl, by simp, rfl, Nat.le_refl _, by omega, by simp [valN], fun _ _ => rfl, rfl, H.out.drewN q0, below_nn (Below.refl g w) q0⟩
    case round =>
      obtain ⟨R, d', n', tr, hm, rfl, rfl, rfl, hR, hn2, hex, hold, hls, hD, hbl⟩ := hrel.out
      clear hrel
      have HM := Lib.hid hm
      have HEX := Lib.hid hex
      have HOLD := Lib.hid hold
      have HLS := Lib.hid hls
      have HD := Lib.hid hD
      have HBL := Lib.hid hbl
      obtain ⟨e1, e2, e3, e4, e5, e6⟩ := hD.facts
      have HE6 := Lib.hid e6
      clear hm hex hold hls hD hbl e6
      rcases R with _ | r
      · have hr0 : ((0 : Nat) : Int) - 1 = -1 := by decide
        have hcar := carry HC.out HDG.out h1 h0
        rw [← HE.out] at hcar
        have hn3 : n' < 10 ^ E := by
          rw [HEX.out, Nat.sub_zero]
          exact hcar.1
        have hls3 : ls1 k E S.nd S.d 0 S.tr = (d', n', tr) := by rw [← HLS.out, ls1]
        have HLS3 := Lib.hid hls3
        have HN3 := Lib.hid hn3
        have hnb : n' < 1152921504606846976 := by omega
        rw [hr0, Nat.zero_add]
        clear hcar hls3 hn3 hpk hpos hn2 e1 e2 e3 e4 e5
        go_wp2
        go_loopg [6, 7] E (fun m wv n wx => Aside (Ls2 g S w E d' n' tr m wv n wx))
        case atStart => exact ⟨E, d', n', rfl, rfl, rfl, hE19, HN3.out, hnb, rfl, HD.out, HBL.out⟩
        case round =>
          obtain ⟨W, d2, n2, hm2, rfl, rfl, hW19, hn10, hnb2, hls2, hD2, hbl2⟩ := hrel.out
          clear hrel
          have HM2 := Lib.hid hm2
          have HLS2 := Lib.hid hls2
          have HD2 := Lib.hid hD2
          have HBL2 := Lib.hid hbl2
          have HN10 := Lib.hid hn10
          obtain ⟨e1, e2, e3, e4, e5, e6⟩ := hD2.facts
          have HE7 := Lib.hid e6
          clear hm2 hls2 hD2 hbl2 hn10 e6
          by_cases hz : n2 = 0
          · subst hz
            have hfin : ls2 E d' n' = d2 := by rw [← HLS2.out, ls2_zero]
            have HFIN := Lib.hid hfin
            clear hfin
            by_cases h8 : 800 ≤ S.nd + E
            · have h8i : (800 : Int) ≤ (S.nd : Int) + (E : Int) := by omega
              have hD3 := ((setNd2 HD2.out (S.nd + E) ((S.nd : Int) + (E : Int)) (by omega)).setNd 800).setDp (S.dp + E)
              have htr := trim g _ _ hD3 (by simp)
              have HTR := Lib.hid htr
              clear hD3 htr
              as_aux_lemma =>
              go_wp2_with (first | (go_at_call 138; refine (HTR.out).mono ?_; rintro e w3 ⟨rfl, hD4, hb4⟩; have HD4 := Lib.hid hD4; have HB4 := Lib.hid hb4; clear hD4 hb4))
              go_end0
              exact ls_end HE.out HLS3.out HFIN.out (by omega) HD4.out (((HBL2.out.setCell (Nat.le_refl _) _).setCell (Nat.le_refl _) _).setCell (Nat.le_refl _) _) HB4.out
            · have h8i : ¬ (800 : Int) ≤ (S.nd : Int) + (E : Int) := by omega
              have hD3 := (setNd2 HD2.out (S.nd + E) ((S.nd : Int) + (E : Int)) (by omega)).setDp (S.dp + E)
              have htr := trim g _ _ hD3 (by simp only; omega)
              have HTR := Lib.hid htr
              clear hD3 htr
              as_aux_lemma =>
              go_wp2_with (first | (go_at_call 138; refine (HTR.out).mono ?_; rintro e w3 ⟨rfl, hD4, hb4⟩; have HD4 := Lib.hid hD4; have HB4 := Lib.hid hb4; clear hD4 hb4))
              go_end0
              exact ls_end HE.out HLS3.out HFIN.out (by omega) HD4.out ((HBL2.out.setCell (Nat.le_refl _) _).setCell (Nat.le_refl _) _) HB4.out
          · rcases W with _ | u
            · exact absurd HN10.out (by simp; omega)
            · have hcw := HE7.out u (by omega)
              simp only at hcw
              have hls4 : ls2 u (upd d2 u (n2 % 10 + 48)) (n2 / 10) = ls2 E d' n' := by rw [← HLS2.out, ls2, if_neg hz]
              have HLS4 := Lib.hid hls4
              have hn11 : n2 / 10 < 10 ^ u := by
                have := HN10.out
                rw [Nat.pow_succ] at this
                omega
              have HN11 := Lib.hid hn11
              have hw1 : ((u + 1 : Nat) : Int) - 1 = (u : Nat) := by omega
              have hn2p : 0 < n2 := by omega
              clear hls4 hn11 hz
              as_aux_lemma =>
              go_wp2
              go_roundg u
              case measure => have := HM2.out; omega
              case rel => exact ⟨u, upd d2 u (n2 % 10 + 48), n2 / 10, rfl, by simp, by simp, by omega, HN11.out, by omega, HLS4.out, put_rem1 (HD2.out.put u (n2 % 10 + 48) (by omega)), HBL2.out.setCell (Nat.le_refl _) _⟩
      · have hr1 : ((r + 1 : Nat) : Int) - 1 = r := by omega
        have hw1 : ((r + 1 + E : Nat) : Int) - 1 = ((r + E : Nat) : Int) := by omega
        rw [hr1]
        have hdig := HE6.out r (by omega)
        simp only at hdig
        rw [HOLD.out r (by omega)] at hdig
        have hdg := HDG.out r (by omega)
        obtain ⟨c', hc'⟩ : ∃ c', S.d r = c' + 48 := ⟨S.d r - 48, by omega⟩
        rw [hc'] at hdig hdg
        obtain ⟨T, hT⟩ : ∃ T : Nat, T = c' * 2 ^ k := ⟨_, rfl⟩
        have hTi : (c' : Int) * 2 ^ k = (T : Nat) := by rw [hT]; exact (by norm_cast)
        have hT9 : T ≤ 9 * 2 ^ k := by rw [hT]; exact Nat.mul_le_mul_right _ (by omega)
        have hTb : T ≤ 10376293541461622784 := by omega
        have hnb : n' ≤ 1152921504606846976 := by omega
        have hTw : IntKind.u64.wrap ((c' : Int) * 2 ^ k) = (T : Nat) := by rw [hTi, IntKind.wrap_u64]; omega
        have HT9 := Lib.hid hT9
        have HTT := Lib.hid hT
        have HN2 := Lib.hid hn2
        clear hTi hT9 hT hpk hpos hn2
        by_cases hw8 : r + E < 800
        · have hcw := HE6.out (r + E) hw8
          simp only at hcw
          as_aux_lemma =>
          go_wp2
          go_roundg r
          case measure => have := HM.out; omega
          case rel => exact ls1_rel (d2 := upd d' (r + E) ((n' + T) % 10 + 48)) (tr' := tr) hR HN2.out HT9.out HTT.out hc' HEX.out HOLD.out HLS.out (by rw [if_pos hw8]) (by rw [if_pos hw8]) (put_rem (HD.out.put (r + E) ((n' + T) % 10 + 48) hw8)) (HBL.out.setCell (Nat.le_refl _) _)
        · by_cases hz : 0 < (n' + T) % 10
          · have hzi : ((n' : Int) + (T : Int) - 10 * (((n' : Int) + (T : Int)) / 10) != 0) = true := by rw [bne_iff_ne]; omega
            as_aux_lemma =>
            go_wp2
            go_roundg r
            case measure => have := HM.out; omega
            case rel => exact ls1_rel (d2 := d') (tr' := true) hR HN2.out HT9.out HTT.out hc' HEX.out HOLD.out HLS.out (by rw [if_neg hw8]) (by rw [if_neg hw8, decide_eq_true hz, Bool.or_true]) (HD.out.setTr true) (HBL.out.setCell (Nat.le_refl _) _)
          · have hzi : ((n' : Int) + (T : Int) - 10 * (((n' : Int) + (T : Int)) / 10) != 0) = false := by
              have : (n' : Int) + (T : Int) - 10 * (((n' : Int) + (T : Int)) / 10) = 0 := by omega
              rw [this]
              rfl
            as_aux_lemma =>
            go_wp2
            go_roundg r
            case measure => have := HM.out; omega
            case rel => exact ls1_rel (d2 := d') (tr' := tr) hR HN2.out HT9.out HTT.out hc' HEX.out HOLD.out HLS.out (by rw [if_neg hw8]) (by rw [if_neg hw8, decide_eq_false hz, Bool.or_false]) HD.out HBL.out

end Go.Proofs.YtdabllkphibfmaaGreatDoor

/- What the shifts keep, and what they lower: plain. -/
namespace Go.Proofs.YtdabllkphibfmaaGreatDoor
open Go Go.RowKit
set_option linter.unusedSimpArgs false
set_option linter.unusedVariables false

/-- A decimal that is no nought. -/
structure DecOk (S : Dec) : Prop where
  n1 : 1 ≤ S.nd
  n8 : S.nd ≤ 800
  dig : DigOk S.d S.nd
  d0 : S.d 0 ≠ 48

theorem trimN_ok {d : Nat → Nat} (h0 : d 0 ≠ 48) : ∀ n, 1 ≤ n → 1 ≤ trimN d n ∧ trimN d n ≤ n
  | 0, h => by omega
  | n + 1, _ => by
    rw [trimN]
    split
    · rename_i hd
      have : 1 ≤ n := by
        rcases Nat.eq_zero_or_pos n with h | h
        · subst h; exact absurd hd h0
        · exact h
      have := trimN_ok h0 n this
      omega
    · omega

theorem DecOk.trim {S : Dec} (h : DecOk S) : DecOk S.trim ∧ S.trim.dp = S.dp ∧ S.trim.d = S.d := by
  have ht := trimN_ok h.d0 S.nd h.n1
  refine ⟨⟨ht.1, by have := h.n8; unfold Dec.trim; simp only; omega, fun i hi => h.dig i (by unfold Dec.trim at hi; simp only at hi; omega), h.d0⟩, ?_, rfl⟩
  unfold Dec.trim
  simp only
  rw [if_neg (by omega)]

theorem padN_ok {k : Nat} : ∀ f n r, 2 ^ k ≤ n * 10 ^ f → n < 10 * 2 ^ k → 2 ^ k ≤ (padN k f n r).1 ∧ (padN k f n r).1 < 10 * 2 ^ k ∧ r ≤ (padN k f n r).2 ∧ (padN k f n r).2 ≤ r + f ∧ ((padN k f n r).2 = r → (padN k f n r).1 = n)
  | 0, n, r, h, h2 => by simp [padN] at h ⊢; exact ⟨h, h2⟩
  | f + 1, n, r, h, h2 => by
    rw [padN]
    split
    · rename_i hc; exact ⟨hc, h2, Nat.le_refl _, by simp, fun _ => rfl⟩
    · rename_i hc
      obtain ⟨a, b, c, d, e⟩ := padN_ok f (n * 10) (r + 1) (pad_step h) (by omega)
      exact ⟨a, b, by omega, by omega, fun h => by omega⟩

theorem rs1_ok {d : Nat → Nat} {nd k : Nat} (hd : DigOk d nd) (hk : k ≤ 60) : ∀ f n r, r + f = nd → 1 ≤ r → 0 < n → n < 10 * 2 ^ k → 2 ^ k ≤ (rs1 d k f n r).1 ∧ (rs1 d k f n r).1 < 10 * 2 ^ k ∧ r ≤ (rs1 d k f n r).2 ∧ (rs1 d k f n r).2 ≤ nd + 64 ∧ ((rs1 d k f n r).2 = r → (rs1 d k f n r).1 = n)
  | 0, n, r, hf, h1, hn, h2 => by
    rw [rs1]
    obtain ⟨a, b, c, e, g⟩ := padN_ok 64 n r (pad_start hk hn) h2
    exact ⟨a, b, c, by omega, g⟩
  | f + 1, n, r, hf, h1, hn, h2 => by
    rw [rs1]
    split
    · rename_i hc; exact ⟨hc, h2, Nat.le_refl _, by simp only; omega, fun _ => rfl⟩
    · rename_i hc
      have hdr := hd r (by omega)
      obtain ⟨a, b, c, e, g⟩ := rs1_ok hd hk f (n * 10 + (d r - 48)) (r + 1) (by omega) (by omega) (by omega) (by omega)
      exact ⟨a, b, by omega, e, fun h => by omega⟩

theorem rs1_first {S : Dec} {k : Nat} (h : DecOk S) (hk : 1 ≤ k ∧ k ≤ 60) : 2 ^ k ≤ (rs1 S.d k S.nd 0 0).1 ∧ (rs1 S.d k S.nd 0 0).1 < 10 * 2 ^ k ∧ 1 ≤ (rs1 S.d k S.nd 0 0).2 ∧ (rs1 S.d k S.nd 0 0).2 ≤ 864 ∧ ((rs1 S.d k S.nd 0 0).2 = 1 → (rs1 S.d k S.nd 0 0).1 = S.d 0 - 48) := by
  obtain ⟨m, hm⟩ : ∃ m, S.nd = m + 1 := ⟨S.nd - 1, by have := h.n1; omega⟩
  have hp : 1 ≤ 2 ^ k := Nat.one_le_two_pow
  have h0 := h.dig 0 (by have := h.n1; omega)
  have hd0 := h.d0
  rw [hm, rs1, if_neg (by omega)]
  simp only [Nat.zero_mul, Nat.zero_add]
  obtain ⟨a, b, c, e, g⟩ := rs1_ok h.dig hk.2 m (S.d 0 - 48) 1 (by omega) (by omega) (by omega) (by omega)
  have := h.n8
  exact ⟨a, b, c, by omega, g⟩

theorem rs3_ok {nd k : Nat} : ∀ f (d : Nat → Nat) n w r, r + f = nd → w < r → DigOk d nd → n < 10 * 2 ^ k → DigOk d w → (rs3 k f d n w r).2.1 < 10 * 2 ^ k ∧ (rs3 k f d n w r).2.2 = w + f ∧ DigOk (rs3 k f d n w r).1 (w + f) ∧ (1 ≤ w → (rs3 k f d n w r).1 0 = d 0)
  | 0, d, n, w, r, _, _, _, h2, h3 => ⟨h2, rfl, h3, fun _ => rfl⟩
  | f + 1, d, n, w, r, hf, hw, hd, h2, h3 => by
    rw [rs3]
    have hp : 0 < 2 ^ k := Nat.two_pow_pos k
    have hq : n / 2 ^ k < 10 := Nat.div_lt_of_lt_mul (by omega)
    have ht : n % 2 ^ k < 2 ^ k := Nat.mod_lt _ hp
    have hdr := hd r (by omega)
    generalize n / 2 ^ k = q at hq ⊢
    have hu : DigOk (upd d w (q + 48)) nd := by
      intro i hi
      unfold upd
      split
      · omega
      · exact hd i hi
    have hu2 : DigOk (upd d w (q + 48)) (w + 1) := by
      intro i hi
      unfold upd
      split
      · omega
      · exact h3 i (by omega)
    obtain ⟨a, b, c, e⟩ := rs3_ok (nd := nd) (k := k) f (upd d w (q + 48)) (n % 2 ^ k * 10 + (d r - 48)) (w + 1) (r + 1) (by omega) (by omega) hu (by omega) hu2
    refine ⟨a, by rw [b]; omega, by have e1 : w + (f + 1) = w + 1 + f := by omega
                                    rw [e1]; exact c, fun h => ?_⟩
    rw [e (by omega)]
    unfold upd
    rw [if_neg (by omega)]

theorem rs4_ok {k : Nat} : ∀ f (d : Nat → Nat) n w tr, n < 10 * 2 ^ k → w ≤ 800 → DigOk d w → (rs4 k f d n w tr).2.1 ≤ 800 ∧ w ≤ (rs4 k f d n w tr).2.1 ∧ DigOk (rs4 k f d n w tr).1 (rs4 k f d n w tr).2.1 ∧ (1 ≤ w → (rs4 k f d n w tr).1 0 = d 0)
  | 0, d, n, w, tr, _, hw, h3 => ⟨hw, Nat.le_refl _, h3, fun _ => rfl⟩
  | f + 1, d, n, w, tr, h2, hw, h3 => by
    rw [rs4]
    have hp : 0 < 2 ^ k := Nat.two_pow_pos k
    have hq : n / 2 ^ k < 10 := Nat.div_lt_of_lt_mul (by omega)
    have ht : n % 2 ^ k < 2 ^ k := Nat.mod_lt _ hp
    generalize n / 2 ^ k = q at hq ⊢
    split
    · exact ⟨hw, Nat.le_refl _, h3, fun _ => rfl⟩
    · split
      · have hu2 : DigOk (upd d w (q + 48)) (w + 1) := by
          intro i hi
          unfold upd
          split
          · omega
          · exact h3 i (by omega)
        obtain ⟨a, b, c, e⟩ := rs4_ok (k := k) f (upd d w (q + 48)) (n % 2 ^ k * 10) (w + 1) tr (by omega) (by omega) hu2
        refine ⟨a, by omega, c, fun h => ?_⟩
        rw [e (by omega)]
        unfold upd
        rw [if_neg (by omega)]
      · exact rs4_ok (k := k) f d (n % 2 ^ k * 10) w _ (by omega) hw h3

/-- What rightShift gives: no nought; its point has gone down, or its first digit has. -/
theorem rsF_ok {S : Dec} {k : Nat} (h : DecOk S) (hk : 1 ≤ k ∧ k ≤ 60) : DecOk (rsF S k) ∧ S.dp - 864 ≤ (rsF S k).dp ∧ ((rsF S k).dp < S.dp ∨ (rsF S k).dp = S.dp ∧ (rsF S k).d 0 < S.d 0) := by
  obtain ⟨a, b, c, e, g⟩ := rs1_first h hk
  obtain ⟨⟨n, r⟩, hp⟩ : ∃ p, p = rs1 S.d k S.nd 0 0 := ⟨_, rfl⟩
  rw [← hp] at a b c e g
  simp only at a b c e g
  have hpos : 0 < 2 ^ k := Nat.two_pow_pos k
  have hq1 : 1 ≤ n / 2 ^ k := Nat.div_pos a hpos
  have hq : n / 2 ^ k < 10 := Nat.div_lt_of_lt_mul (by omega)
  obtain ⟨q0, hq0⟩ : ∃ q0, q0 = n / 2 ^ k := ⟨_, rfl⟩
  rw [← hq0] at hq1 hq
  have key : ∃ d4 w4 tr4, rsF S k = Dec.trim { d := d4, nd := w4, dp := S.dp - ((r : Int) - 1), neg := S.neg, tr := tr4 } ∧ 1 ≤ w4 ∧ w4 ≤ 800 ∧ DigOk d4 w4 ∧ d4 0 = q0 + 48 := by
    unfold rsF
    rw [← hp]
    simp only
    refine ⟨_, _, _, rfl, ?_⟩
    by_cases hr : r < S.nd
    · obtain ⟨f, hf⟩ : ∃ f, S.nd - r = f + 1 := ⟨S.nd - r - 1, by omega⟩
      have hdr := h.dig r hr
      have ht : n % 2 ^ k < 2 ^ k := Nat.mod_lt _ hpos
      have hu : DigOk (upd S.d 0 (q0 + 48)) S.nd := by
        intro i hi
        unfold upd
        split
        · omega
        · exact h.dig i hi
      have hu2 : DigOk (upd S.d 0 (q0 + 48)) 1 := by
        intro i hi
        unfold upd
        rw [if_pos (by omega)]
        omega
      obtain ⟨x1, x2, x3, x4⟩ := rs3_ok f (upd S.d 0 (q0 + 48)) (n % 2 ^ k * 10 + (S.d r - 48)) 1 (r + 1) (nd := S.nd) (k := k) (by omega) (by omega) hu (by omega) hu2
      obtain ⟨⟨d3, n3, w3⟩, hP⟩ : ∃ P, P = rs3 k f (upd S.d 0 (q0 + 48)) (n % 2 ^ k * 10 + (S.d r - 48)) 1 (r + 1) := ⟨_, rfl⟩
      rw [← hP] at x1 x2 x3 x4
      simp only at x1 x2 x3 x4
      have hn8 := h.n8
      rw [hf, rs3, ← hq0, Nat.zero_add, ← hP]
      simp only
      rw [← x2] at x3
      obtain ⟨y1, y2, y3, y4⟩ := rs4_ok (k := k) (k + 1) d3 n3 w3 S.tr x1 (by omega) x3
      refine ⟨by omega, y1, y3, ?_⟩
      rw [y4 (by omega), x4 (by omega)]
      unfold upd
      rw [if_pos rfl]
    · have hf : S.nd - r = 0 := by omega
      rw [hf, rs3]
      simp only
      rw [rs4, if_neg (by omega), if_pos (by omega), ← hq0]
      have ht : n % 2 ^ k < 2 ^ k := Nat.mod_lt _ hpos
      have hu2 : DigOk (upd S.d 0 (q0 + 48)) 1 := by
        intro i hi
        unfold upd
        rw [if_pos (by omega)]
        omega
      obtain ⟨y1, y2, y3, y4⟩ := rs4_ok k (upd S.d 0 (q0 + 48)) (n % 2 ^ k * 10) 1 S.tr (k := k) (by omega) (by omega) hu2
      refine ⟨y2, y1, y3, ?_⟩
      rw [Nat.zero_add, y4 (by omega)]
      unfold upd
      rw [if_pos rfl]
  obtain ⟨d4, w4, tr4, hF, k1, k2, k3, k4⟩ := key
  have hok : DecOk { d := d4, nd := w4, dp := S.dp - ((r : Int) - 1), neg := S.neg, tr := tr4 } := ⟨k1, k2, k3, by simp only; omega⟩
  obtain ⟨t1, t2, t3⟩ := hok.trim
  rw [hF]
  refine ⟨t1, ?_, ?_⟩
  · rw [t2]; simp only; omega
  · rw [t2, t3]
    simp only
    rcases Nat.lt_or_ge 1 r with hr | hr
    · left; omega
    · right
      have hr1 : r = 1 := by omega
      refine ⟨by omega, ?_⟩
      have hn := g hr1
      rw [k4, hq0, hn]
      have h2 : 2 ≤ 2 ^ k := by
        have := Nat.pow_le_pow_right (n := 2) (by decide) hk.1
        simpa using this
      have h0 := h.dig 0 (by have := h.n1; omega)
      have hd0 := h.d0
      have : (S.d 0 - 48) / 2 ^ k < S.d 0 - 48 := Nat.div_lt_self (by omega) (by omega)
      omega

theorem ls1_ok {k E nd : Nat} {S : Dec} (hnd : nd = S.nd) : ∀ (R : Nat) (d : Nat → Nat) (n : Nat) (tr : Bool), R ≤ nd → n = valN S.d R (nd - R) * 2 ^ k / 10 ^ (nd - R) → (∀ i, i < R → d i = S.d i) → (∀ i, i < R → 48 ≤ S.d i) → (∀ i, R + E ≤ i → i < nd + E → i < 800 → 48 ≤ d i ∧ d i ≤ 57) →
    (ls1 k E R d n tr).2.1 = valN S.d 0 nd * 2 ^ k / 10 ^ nd ∧ (∀ i, E ≤ i → i < nd + E → i < 800 → 48 ≤ (ls1 k E R d n tr).1 i ∧ (ls1 k E R d n tr).1 i ≤ 57)
  | 0, d, n, tr, _, h1, _, _, h3 => ⟨by rw [ls1, h1, Nat.sub_zero], fun i hi => h3 i (by omega)⟩
  | r + 1, d, n, tr, hR, h1, h2, h4, h3 => by
    rw [ls1]
    have hdr := h2 r (by omega)
    have h48 := h4 r (by omega)
    refine ls1_ok hnd r _ _ _ (by omega) ?_ ?_ (fun i hi => h4 i (by omega)) ?_
    · rw [hdr]
      exact exact_step hR h1 rfl (by omega)
    · intro i hi
      split
      · unfold upd
        rw [if_neg (by omega)]
        exact h2 i (by omega)
      · exact h2 i (by omega)
    · intro i hi1 hi2 hi3
      split
      · unfold upd
        split
        · omega
        · exact h3 i (by omega) hi2 hi3
      · exact h3 i (by omega) hi2 hi3

theorem ls1_head {k : Nat} : ∀ (R : Nat) (d : Nat → Nat) (n : Nat) (tr : Bool), 1 ≤ R → (ls1 k 0 R d n tr).2.1 = 0 → (d 0 - 48) * 2 ^ k + 48 ≤ (ls1 k 0 R d n tr).1 0
  | 1, d, n, tr, _, h => by
    rw [ls1, ls1] at h ⊢
    simp only [Nat.add_zero] at h ⊢
    rw [if_pos (by decide)]
    unfold upd
    rw [if_pos rfl]
    generalize (d 0 - 48) * 2 ^ k = x at h ⊢
    omega
  | r + 2, d, n, tr, _, h => by
    rw [ls1] at h ⊢
    have ih := ls1_head (r + 1) _ _ _ (by omega) h
    refine Nat.le_trans ?_ ih
    split
    · unfold upd
      rw [if_neg (by omega)]
      exact Nat.le_refl _
    · exact Nat.le_refl _

theorem ls2_ok : ∀ (w : Nat) (d : Nat → Nat) (n : Nat), n < 10 ^ w → (1 ≤ w → 10 ^ (w - 1) ≤ n) → (∀ i, i < w → 48 ≤ ls2 w d n i ∧ ls2 w d n i ≤ 57) ∧ (∀ i, w ≤ i → ls2 w d n i = d i) ∧ (1 ≤ w → ls2 w d n 0 ≠ 48)
  | 0, d, n, _, _ => ⟨fun i hi => by omega, fun _ _ => rfl, fun h => by omega⟩
  | w + 1, d, n, h1, h2 => by
    have hlo := h2 (by omega)
    rw [Nat.add_sub_cancel] at hlo
    have hp : 0 < 10 ^ w := Nat.pow_pos (by decide)
    rw [Nat.pow_succ] at h1
    rw [ls2, if_neg (by omega)]
    obtain ⟨a, b, c⟩ := ls2_ok w (upd d w (n % 10 + 48)) (n / 10) (by omega) (fun hw => by
      obtain ⟨v, rfl⟩ : ∃ v, w = v + 1 := ⟨w - 1, by omega⟩
      rw [Nat.pow_succ] at hlo
      rw [Nat.add_sub_cancel]
      omega)
    refine ⟨fun i hi => ?_, fun i hi => ?_, fun _ => ?_⟩
    · rcases Nat.lt_or_ge i w with h | h
      · exact a i h
      · have : i = w := by omega
        subst this
        rw [b i (Nat.le_refl _)]
        unfold upd
        rw [if_pos rfl]
        omega
    · rw [b i (by omega)]
      unfold upd
      rw [if_neg (by omega)]
    · rcases Nat.eq_zero_or_pos w with h | h
      · subst h
        rw [b 0 (Nat.le_refl _)]
        unfold upd
        rw [if_pos rfl]
        simp at h1 hlo
        omega
      · exact c h

/-- What leftShift gives: no nought; its point has gone up, or its first digit has. -/
theorem lsF_ok {S : Dec} {k D : Nat} {l : List UInt8} (h : DecOk S) (hk : 1 ≤ k ∧ k ≤ 60) (hc : Cheat k D l) : DecOk (lsF S k D l) ∧ (lsF S k D l).dp ≤ S.dp + 19 ∧ (S.dp < (lsF S k D l).dp ∨ (lsF S k D l).dp = S.dp ∧ S.d 0 < (lsF S k D l).d 0) := by
  have hcar := carry hc h.dig h.n1 h.d0
  have hE19 : dlt S D l ≤ 19 := by have := hc.d19; unfold dlt; split <;> omega
  obtain ⟨E, hE⟩ : ∃ E, E = dlt S D l := ⟨_, rfl⟩
  rw [← hE] at hcar hE19
  have h1 := ls1_ok (k := k) (E := E) (nd := S.nd) (S := S) rfl S.nd S.d 0 S.tr (Nat.le_refl _) (by simp [valN]) (fun _ _ => rfl) (fun i hi => (h.dig i hi).1) (fun i h1 h2 => by omega)
  obtain ⟨⟨d', n', tr'⟩, hP⟩ : ∃ P, P = ls1 k E S.nd S.d 0 S.tr := ⟨_, rfl⟩
  rw [← hP] at h1
  simp only at h1
  rw [← h1.1] at hcar
  obtain ⟨a, b, c⟩ := ls2_ok E d' n' hcar.1 hcar.2
  have hn1 := h.n1
  have hn8 := h.n8
  have hd00 := h.dig 0 (by omega)
  have hd0 := h.d0
  have h2 : 2 ≤ 2 ^ k := by
    have := Nat.pow_le_pow_right (n := 2) (by decide) hk.1
    simpa using this
  have hzero : E = 0 → S.d 0 < ls2 E d' n' 0 := by
    intro h0
    have hh := ls1_head (k := k) S.nd S.d 0 S.tr hn1 (by
      have := hcar.1
      rw [h0, Nat.pow_zero] at this
      rw [h0] at hP
      rw [← hP]
      simp only
      omega)
    rw [h0] at hP
    rw [← hP] at hh
    simp only at hh
    rw [b 0 (by omega)]
    have h3 : (S.d 0 - 48) * 2 ≤ (S.d 0 - 48) * 2 ^ k := Nat.mul_le_mul_left _ h2
    omega
  have hok : DecOk { d := ls2 E d' n', nd := min (S.nd + E) 800, dp := S.dp + E, neg := S.neg, tr := tr' } := by
    refine ⟨by simp only; omega, by simp only; omega, fun i hi => ?_, ?_⟩
    · simp only at hi
      rcases Nat.lt_or_ge i E with h | h
      · exact a i h
      · have := h1.2 i h (by omega) (by omega)
        simp only
        rw [b i h]
        exact this
    · rcases Nat.eq_zero_or_pos E with h | h
      · have := hzero h
        simp only
        omega
      · exact c h
  obtain ⟨t1, t2, t3⟩ := hok.trim
  have hF : lsF S k D l = Dec.trim { d := ls2 E d' n', nd := min (S.nd + E) 800, dp := S.dp + E, neg := S.neg, tr := tr' } := by
    unfold lsF
    simp only [← hE, ← hP]
  rw [hF]
  refine ⟨t1, by rw [t2]; simp only; omega, ?_⟩
  rw [t2, t3]
  simp only
  rcases Nat.eq_zero_or_pos E with h | h
  · right
    exact ⟨by omega, hzero h⟩
  · left
    omega

end Go.Proofs.YtdabllkphibfmaaGreatDoor

/- decimal.Shift: one answer. -/
namespace Go.Proofs.YtdabllkphibfmaaGreatDoor
open Go Go.RowKit
set_option linter.unusedSimpArgs false
set_option linter.unusedVariables false

/-- leftShift's table lies in a world, below a block. -/
structure Lc (D : Nat → Nat) (C : Nat → List UInt8) (g : Nat) (w : World) (a : Addr) (c : Nat) : Prop where
  sl : w.cell? ⟨16, 0, none⟩ = some (.slice (some a) 61 c)
  g16 : 16 < g
  ag : ∀ k, (a.add (k * 2)).block < g
  ag0 : a.block < g
  dl : ∀ k, 1 ≤ k → k ≤ 60 → w.cell? (a.add (k * 2)) = some (.int .i64 (D k))
  cu : ∀ k, 1 ≤ k → k ≤ 60 → w.cell? ⟨(a.add (k * 2)).block, (a.add (k * 2)).off + 1, none⟩ = some (.string ⟨(C k).toArray⟩)
  ok : ∀ k, 1 ≤ k → k ≤ 60 → Cheat k (D k) (C k) ∧ (C k).length ≤ 100

theorem Lc.below {D : Nat → Nat} {C : Nat → List UInt8} {g : Nat} {w w' : World} {a : Addr} {c : Nat} (h : Lc D C g w a c) (hb : Below g w w') : Lc D C g w' a c :=
  ⟨(hb.cell (p := ⟨16, 0, none⟩) h.g16).trans h.sl, h.g16, h.ag, h.ag0, fun k h1 h2 => (hb.cell (p := a.add (k * 2)) (h.ag k)).trans (h.dl k h1 h2), fun k h1 h2 => (hb.cell (p := ⟨(a.add (k * 2)).block, (a.add (k * 2)).off + 1, none⟩) (h.ag k)).trans (h.cu k h1 h2), h.ok⟩

theorem leftShift' {D : Nat → Nat} {C : Nat → List UInt8} {g : Nat} {a : Addr} {c : Nat} {S : Dec} {k : Nat} {w : World} (h : DecAt g S w) (ho : DecOk S) (hk : 1 ≤ k ∧ k ≤ 60) (hdp : -1000000000 ≤ S.dp ∧ S.dp ≤ 1000000000) (hl : Lc D C g w a c) : Calls Tryz.prog 130 #[.pointer (some ⟨g, 0, none⟩), .int .u64 k] w (DPost g (lsF S k (D k) (C k)) w) :=
  leftShift g S k (D k) (C k) a c w h ho.n8 ho.dig ho.n1 ho.d0 hk hdp (hl.ok k hk.1 hk.2).1 (hl.ok k hk.1 hk.2).2 hl.sl (hl.dl k hk.1 hk.2) (hl.cu k hk.1 hk.2) hl.g16 hl.ag0

def shL (D : Nat → Nat) (C : Nat → List UInt8) (S : Dec) (k : Nat) : Dec := if 60 < k then shL D C (lsF S 60 (D 60) (C 60)) (k - 60) else lsF S k (D k) (C k)
termination_by k
decreasing_by omega

def shR (S : Dec) (k : Nat) : Dec := if 60 < k then shR (rsF S 60) (k - 60) else rsF S k
termination_by k
decreasing_by omega

def ShR (D : Nat → Nat) (C : Nat → List UInt8) (g : Nat) (S : Dec) (k : Nat) (w : World) (m : Nat) (kv : Value) (wx : World) : Prop :=
  ∃ (k' : Nat) (S' : Dec), m = k' ∧ kv = .int .i64 k' ∧ 1 ≤ k' ∧ k' ≤ k ∧ shL D C S' k' = shL D C S k ∧ DecOk S' ∧ S.dp ≤ S'.dp ∧ S'.dp ≤ S.dp + ((k : Int) - k') ∧ DecAt g S' wx ∧ Below g w wx

set_option maxRecDepth 1000000 in
set_option maxHeartbeats 8000000 in
theorem shiftUp {D : Nat → Nat} {C : Nat → List UInt8} {g : Nat} {a : Addr} {c : Nat} {S : Dec} {k : Nat} {w : World} (h : DecAt g S w) (ho : DecOk S) (hk : 1 ≤ k ∧ k ≤ 5000) (hdp : -900000000 ≤ S.dp ∧ S.dp ≤ 900000000) (hl : Lc D C g w a c) :
    Calls Tryz.prog 123 #[.pointer (some ⟨g, 0, none⟩), .int .i64 k] w (DPost g (shL D C S k) w) := by
  have H := Lib.hid h
  have HO := Lib.hid ho
  have HL := Lib.hid hl
  have f1 := h.facts.nd
  have hnd : ((S.nd : Int) == 0) = false := beq_eq_false_iff_ne.2 (by have := ho.n1; omega)
  have hkp : (0 : Int) < k := by omega
  have hkp0 : 0 < k := by omega
  clear h ho hl
  go_enter Tryz.func123, Tryz.ntmps123
  go_wp2
  go_loopg [1] k (fun m kv wx => Aside (ShR D C g S k w m kv wx))
  case atStart => exact ⟨k, S, rfl, rfl, hk.1, Nat.le_refl _, rfl, HO.out, by omega, by omega, H.out, Below.refl _ _⟩
  case round =>
    obtain ⟨k', S', hm, rfl, h1, h2, hs, hok, hd1, hd2, hD, hb⟩ := hrel.out
    clear hrel
    have HM := Lib.hid hm
    have HS := Lib.hid hs
    have HOK := Lib.hid hok
    have HD := Lib.hid hD
    have HB := Lib.hid hb
    clear hm hs hok hD hb
    by_cases h60 : 60 < k'
    · have hc := leftShift' (k := 60) HD.out HOK.out (by omega) (by omega) (HL.out.below HB.out)
      have HC := Lib.hid hc
      have hko := lsF_ok HOK.out (k := 60) (by omega) (HL.out.ok 60 (by omega) (by omega)).1
      have HKO := Lib.hid hko.1
      have hko2 := hko.2.1
      have hko3 : S'.dp ≤ (lsF S' 60 (D 60) (C 60)).dp := by rcases hko.2.2 with h | ⟨h, _⟩ <;> omega
      have hs2 : shL D C (lsF S' 60 (D 60) (C 60)) (k' - 60) = shL D C S k := by rw [← HS.out, shL.eq_def D C S' k', if_pos h60]
      have HS2 := Lib.hid hs2
      clear hc hko hs2
      as_aux_lemma =>
      go_wp2_with (first | (go_at_call 130; refine (HC.out).mono ?_; rintro e w2 ⟨rfl, hD2, hb2⟩; have HD2 := Lib.hid hD2; have HB2 := Lib.hid hb2; clear hD2 hb2))
      go_roundg (k' - 60)
      case measure => have := HM.out; omega
      case rel => exact ⟨k' - 60, lsF S' 60 (D 60) (C 60), rfl, by congr 1; omega, by omega, by omega, HS2.out, HKO.out, by omega, by omega, HD2.out, HB.out.trans HB2.out⟩
    · have hc := leftShift' (k := k') HD.out HOK.out (by omega) (by omega) (HL.out.below HB.out)
      have HC := Lib.hid hc
      have hs2 : shL D C S k = lsF S' k' (D k') (C k') := by rw [← HS.out, shL.eq_def D C S' k', if_neg h60]
      have HS2 := Lib.hid hs2
      clear hc hs2
      as_aux_lemma =>
      go_wp2_with (first | (go_at_call 130; refine (HC.out).mono ?_; rintro e w2 ⟨rfl, hD2, hb2⟩; have HD2 := Lib.hid hD2; have HB2 := Lib.hid hb2; clear hD2 hb2))
      go_end0
      exact ⟨rfl, by rw [HS2.out]; exact HD2.out, HB.out.trans HB2.out⟩

def ShRR (g : Nat) (S : Dec) (k : Nat) (w : World) (m : Nat) (kv : Value) (wx : World) : Prop :=
  ∃ (k' : Nat) (S' : Dec), m = k' ∧ kv = .int .i64 (-(k' : Int)) ∧ 1 ≤ k' ∧ k' ≤ k ∧ shR S' k' = shR S k ∧ DecOk S' ∧ S'.dp ≤ S.dp ∧ S.dp - 15 * ((k : Int) - k') ≤ S'.dp ∧ DecAt g S' wx ∧ Below g w wx

set_option maxRecDepth 1000000 in
set_option maxHeartbeats 8000000 in
theorem shiftDown {g : Nat} {S : Dec} {k : Nat} {w : World} (h : DecAt g S w) (ho : DecOk S) (hk : 1 ≤ k ∧ k ≤ 5000000) (hdp : -900000000 ≤ S.dp ∧ S.dp ≤ 900000000) :
    Calls Tryz.prog 123 #[.pointer (some ⟨g, 0, none⟩), .int .i64 (-(k : Int))] w (DPost g (shR S k) w) := by
  have H := Lib.hid h
  have HO := Lib.hid ho
  have f1 := h.facts.nd
  have hnd : ((S.nd : Int) == 0) = false := beq_eq_false_iff_ne.2 (by have := ho.n1; omega)
  have hkp : ¬ (0 : Int) < -(k : Int) := by omega
  have hkm : -(k : Int) < 0 := by omega
  clear h ho
  go_enter Tryz.func123, Tryz.ntmps123
  go_wp2
  go_loopg [1] k (fun m kv wx => Aside (ShRR g S k w m kv wx))
  case atStart => exact ⟨k, S, rfl, rfl, hk.1, Nat.le_refl _, rfl, HO.out, by omega, by omega, H.out, Below.refl _ _⟩
  case round =>
    obtain ⟨k', S', hm, rfl, h1, h2, hs, hok, hd1, hd2, hD, hb⟩ := hrel.out
    clear hrel
    have HM := Lib.hid hm
    have HS := Lib.hid hs
    have HOK := Lib.hid hok
    have HD := Lib.hid hD
    have HB := Lib.hid hb
    clear hm hs hok hD hb
    by_cases h60 : 60 < k'
    · have hc := rightShift g S' 60 _ HD.out HOK.out.n8 HOK.out.dig HOK.out.n1 HOK.out.d0 (by omega) (by omega)
      have HC := Lib.hid hc
      have hko := rsF_ok HOK.out (k := 60) (by omega)
      have HKO := Lib.hid hko.1
      have hko2 := hko.2.1
      have hko3 : (rsF S' 60).dp ≤ S'.dp := by rcases hko.2.2 with h | ⟨h, _⟩ <;> omega
      have hs2 : shR (rsF S' 60) (k' - 60) = shR S k := by rw [← HS.out, shR.eq_def S' k', if_pos h60]
      have HS2 := Lib.hid hs2
      clear hc hko hs2
      as_aux_lemma =>
      go_wp2_with (first | (go_at_call 131; refine (HC.out).mono ?_; rintro e w2 ⟨rfl, hD2, hb2⟩; have HD2 := Lib.hid hD2; have HB2 := Lib.hid hb2; clear hD2 hb2))
      go_roundg (k' - 60)
      case measure => have := HM.out; omega
      case rel => exact ⟨k' - 60, rsF S' 60, rfl, by congr 1; omega, by omega, by omega, HS2.out, HKO.out, by omega, by omega, HD2.out, HB.out.trans HB2.out⟩
    · have hc := rightShift g S' k' _ HD.out HOK.out.n8 HOK.out.dig HOK.out.n1 HOK.out.d0 (by omega) (by omega)
      have HC := Lib.hid hc
      have hs2 : shR S k = rsF S' k' := by rw [← HS.out, shR.eq_def S' k', if_neg h60]
      have HS2 := Lib.hid hs2
      clear hc hs2
      as_aux_lemma =>
      go_wp2_with (first | (go_at_call 131; refine (HC.out).mono ?_; rintro e w2 ⟨rfl, hD2, hb2⟩; have HD2 := Lib.hid hD2; have HB2 := Lib.hid hb2; clear hD2 hb2))
      go_end0
      exact ⟨rfl, by rw [HS2.out]; exact HD2.out, HB.out.trans HB2.out⟩

end Go.Proofs.YtdabllkphibfmaaGreatDoor
