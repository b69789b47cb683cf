/- atof64exact, by its contract. -/
import Derived.Test.YtdabllkphibfmaaGreatDoorGh
import Derived.Laws.FloatArith
import Derived.Deep.CutBlock
import Derived.Deep.DeepCutAuto
import Derived.Test.YtdabllkphibfmaaGreatDoorGj
import Derived.WalkLawsBesides
namespace Go.Proofs.YtdabllkphibfmaaGreatDoor
open Go Go.RowKit
set_option linter.unusedSimpArgs false
set_option linter.unusedVariables false

/-- The bits of the powers of ten that are exact. -/
def p10s : List Nat := [4607182418800017408, 4621819117588971520, 4636737291354636288, 4652007308841189376, 4666723172467343360, 4681608360884174848, 4696837146684686336, 4711630319722168320, 4726483295884279808, 4741671816366391296, 4756540486875873280, 4771362005757984768, 4786511204640096256, 4801453603149578240, 4816244402031689728, 4831355200913801216, 4846369599423283200, 4861130398305394688, 4876203697187506176, 4891288408196988160, 4906019910204099648, 4921056587992461136, 4936209963552724370]
def p10 (i : Nat) : Nat := p10s.getD i 0

/-- What the conversion reads of the library's variables. -/
structure FloVars (w0 : World) : Prop where
  info : w0.cell? ⟨8, 0, none⟩ = some (.int .u64 52)
  opt : w0.cell? ⟨7, 0, none⟩ = some (.bool true)
  tab : ∃ a c, w0.cell? ⟨14, 0, none⟩ = some (.slice (some a) 23 c) ∧ ∀ i, i < 23 → w0.cell? (a.add i) = some (.float .f64 (p10 i))

theorem Old.cellA {w0 w : World} (h : Old w0 w) {p : Addr} {v : Value} (hc : w0.cell? p = some v) : w.cell? p = some v :=
  (World.cell?_of_block (h.block p.block (World.block_lt_of_cell? w0 p hc))).trans hc

def fmul (x y : Nat) : Nat := (FloatKind.f64.format.mul x y).getD 0
def fdiv (x y : Nat) : Nat := (FloatKind.f64.format.div x y).getD 0
def fneg (x : Nat) : Nat := Op.negFloat .f64 x

/-- No NaN. -/
def Fin (x : Nat) : Prop := (FloatKind.f64.format.read x).isNaN = false

theorem fin_word (neg : Bool) (rung : Nat) (h : rung ≤ FloatKind.f64.format.infRung) : Fin (FloatKind.f64.format.word neg rung) := by
  have hs : FloatKind.f64.format.infRung < FloatKind.f64.format.signWeight := Ieee.Format.infRung_lt _
  have hm : FloatKind.f64.format.word neg rung % FloatKind.f64.format.signWeight = rung := by
    unfold Ieee.Format.word
    split
    · rw [Nat.add_mod_left, Nat.mod_eq_of_lt (by omega)]
    · exact Nat.mod_eq_of_lt (by omega)
  unfold Fin Ieee.Format.read
  simp only [hm]
  split
  · rfl
  · split
    · rfl
    · rw [if_pos (by omega)]; rfl

theorem fin_number (neg : Bool) (mag : Nat) (place : Int) : Fin (FloatKind.f64.format.write (.number neg mag place)) := by
  show Fin (FloatKind.f64.format.nearest neg mag place)
  unfold Ieee.Format.nearest
  split
  · exact fin_word _ _ (Nat.zero_le _)
  · exact fin_word _ _ (Nat.min_le_right _ _)

theorem fin_inf (neg : Bool) : Fin (FloatKind.f64.format.write (.infinity neg)) := fin_word _ _ (Nat.le_refl _)

theorem fin_int (n : Int) : Fin (floatOfInt .f64 n) := fin_number _ _ _

theorem p10_num : ∀ i : _root_.Fin 23, ∃ s m e, FloatKind.f64.format.read (p10 i.val) = .number s (m + 1) e := by
  intro i
  have h : ∀ i : _root_.Fin 23, (match FloatKind.f64.format.read (p10 i.val) with | .number s (m + 1) e => true | _ => false) = true := by decide +kernel
  have hi := h i
  split at hi
  · exact ⟨_, _, _, by assumption⟩
  · cases hi

theorem mul_some {x : Nat} (hx : Fin x) (i : Nat) (hi : i < 23) : FloatKind.f64.format.mul x (p10 i) = some (fmul x (p10 i)) ∧ Fin (fmul x (p10 i)) := by
  obtain ⟨s, m, e, hp⟩ := p10_num ⟨i, hi⟩
  simp only at hp
  unfold fmul Ieee.Format.mul
  rw [hp]
  unfold Fin at hx
  cases hr : FloatKind.f64.format.read x with
  | nan s t => rw [hr] at hx; cases hx
  | infinity t => exact ⟨rfl, fin_inf _⟩
  | number t n j => exact ⟨rfl, fin_number _ _ _⟩

theorem div_some {x : Nat} (hx : Fin x) (i : Nat) (hi : i < 23) : FloatKind.f64.format.div x (p10 i) = some (fdiv x (p10 i)) := by
  obtain ⟨s, m, e, hp⟩ := p10_num ⟨i, hi⟩
  simp only at hp
  unfold fdiv Ieee.Format.div
  rw [hp]
  unfold Fin at hx
  cases hr : FloatKind.f64.format.read x with
  | nan s t => rw [hr] at hx; cases hx
  | infinity t => rfl
  | number t n j => simp [Ieee.Datum.quotient]

/-- A product with a power of ten, if the number is not too great. -/
def exactMul (f k : Nat) : Option Nat :=
  if (FloatKind.f64.format.order f 4831355200913801216 == some .gt) || (FloatKind.f64.format.order f 14054727237768577024 == some .lt) then none else some (fmul f (p10 k))

def signF (m : Nat) (neg : Bool) : Nat := if neg then fneg (floatOfInt .f64 m) else floatOfInt .f64 m

theorem sign_true (m : Nat) : signF m true = fneg (floatOfInt .f64 m) := by unfold signF; exact if_pos rfl
theorem sign_false (m : Nat) : signF m false = floatOfInt .f64 m := by unfold signF; exact if_neg (by decide)

/-- What atof64exact gives. -/
def exactF (m : Nat) (e : Int) (neg : Bool) : Option Nat :=
  if 4503599627370496 ≤ m then none
  else if e = 0 then some (signF m neg)
  else if 0 < e ∧ e ≤ 37 then
    if 22 < e then exactMul (fmul (signF m neg) (p10 (e - 22).toNat)) 22 else exactMul (signF m neg) e.toNat
  else if -22 ≤ e ∧ e < 0 then some (fdiv (signF m neg) (p10 (-e).toNat))
  else none

theorem fin_neg {x : Nat} (h : Fin x) : Fin (fneg x) := by
  have hs : FloatKind.f64.format.signWeight = 2 ^ 63 := rfl
  have hm : fneg x % FloatKind.f64.format.signWeight = x % FloatKind.f64.format.signWeight := by
    show (x ^^^ 2 ^ 63) % FloatKind.f64.format.signWeight = _
    rw [hs, Nat.xor_mod_two_pow, Nat.mod_self, Nat.xor_zero]
  unfold Fin Ieee.Format.read at h ⊢
  simp only [hm]
  simp only at h
  split
  · rfl
  · rename_i h1
    rw [if_neg h1] at h
    split
    · rfl
    · rename_i h2
      rw [if_neg h2] at h
      split
      · rfl
      · rename_i h3
        rw [if_neg h3] at h
        cases h

theorem fin_sign (m : Nat) (neg : Bool) : Fin (signF m neg) := by
  unfold signF
  split
  · exact fin_neg (fin_int m)
  · exact fin_int m

/-- What the call gives. -/
def ExPost (r : Option Nat) (w : World) (e : Ending) (w' : World) : Prop :=
  ∃ b ok, e = .returned (.tuple #[.float .f64 b, .bool ok]) ∧ r = (if ok then some b else none) ∧ ∃ n, w' = w.drewN n

/-- None, if it was too great. -/
def exSel (b : Bool) (x : Nat) : Option Nat := if b = true then none else some x

theorem ex_none {r : Option Nat} (b : Nat) (w : World) (h : r = none) : ExPost r w (.returned (.tuple #[.float .f64 b, .bool false])) w := ⟨b, false, rfl, h, 0, rfl⟩
theorem ex_some {r : Option Nat} (b : Nat) (w : World) (h : r = some b) : ExPost r w (.returned (.tuple #[.float .f64 b, .bool true])) w := ⟨b, true, rfl, h, 0, rfl⟩

set_option maxRecDepth 1000000 in
set_option maxHeartbeats 40000000 in
theorem atofExact (w0 : World) (hf : FloVars w0) (m : Nat) (hm : m < 18446744073709551616) (e : Int) (he : -2000000 ≤ e ∧ e ≤ 2000000) (neg : Bool) (w : World) (ho : Old w0 w) :
    Calls Tryz.prog 99 #[.int .u64 m, .int .i64 e, .bool neg] w (ExPost (exactF m e neg) w) := by
  have h8 := ho.cell hf.info
  obtain ⟨⟨T, o, x⟩, c, h14, ht⟩ := hf.tab
  have h14 := ho.cell h14
  have ht : ∀ i : Nat, 0 < i → i < 23 → w.cell? ⟨T, o + i, none⟩ = some (.float .f64 (p10 i)) ∧ (⟨T, o, x⟩ : Addr).add i = ⟨T, o + i, none⟩ := fun i h0 hi => by
    have e : (⟨T, o, x⟩ : Addr).add i = ⟨T, o + i, none⟩ := by unfold Addr.add; rw [if_neg (by omega)]
    have := ho.cellA (ht i hi)
    rw [e] at this
    exact ⟨this, e⟩
  have HT := Lib.hid ht
  obtain ⟨he1, he2⟩ := he
  clear ht ho hf
  by_cases hbig : 4503599627370496 ≤ m
  · have hb : ((m : Int) / 4503599627370496 != 0) = true := by simp only [bne_iff_ne, ne_eq]; omega
    have hr : exactF m e neg = none := by unfold exactF; rw [if_pos hbig]
    have HR := Lib.hid hr
    clear hbig hr
    as_aux_lemma =>
    go_enter Tryz.func99, Tryz.ntmps99
    go_wp2_with fail
    go_ret2
    exact ex_none _ _ HR.out
  · have hb : ((m : Int) / 4503599627370496 != 0) = false := by simp only [bne_eq_false_iff_eq]; omega
    have hfs := fin_sign m neg
    have hr : exactF m e neg = (if e = 0 then some (signF m neg)
      else if 0 < e ∧ e ≤ 37 then
        if 22 < e then exactMul (fmul (signF m neg) (p10 (e - 22).toNat)) 22 else exactMul (signF m neg) e.toNat
      else if -22 ≤ e ∧ e < 0 then some (fdiv (signF m neg) (p10 (-e).toNat))
      else none) := by unfold exactF; rw [if_neg hbig]
    obtain ⟨R, hR⟩ : ∃ R, R = exactF m e neg := ⟨_, rfl⟩
    rw [← hR] at hr ⊢
    obtain ⟨F, hF⟩ : ∃ F, F = signF m neg := ⟨_, rfl⟩
    rw [← hF] at hr hfs
    have HF := Lib.hid hF
    have HR := Lib.hid hr
    have HFS := Lib.hid hfs
    clear hbig hr hF hR hfs
    have hneg : ∀ (x : Nat) (w : World), (Op.unary .neg (.float .f64 x)).run Tryz.prog w = .ok (.float .f64 (fneg x)) w := fun _ _ => rfl
    go_enter Tryz.func99, Tryz.ntmps99
    go_upto_if 15 with fail
    go_cut [6] (fun v wx => v = .float .f64 F ∧ w = wx)
    case first =>
     as_aux_lemma =>
      cases neg with
      | true =>
        have HG := Lib.hid (HF.out.trans (sign_true m))
        go_wp2_with fail
        go_meet
        exact ⟨by rw [HG.out], rfl⟩
      | false =>
        have HG := Lib.hid (HF.out.trans (sign_false m))
        go_wp2_with fail
        go_meet
        exact ⟨by rw [HG.out], rfl⟩
    case rest =>
     as_aux_lemma =>
      obtain ⟨rfl, rfl⟩ := hcut
      clear hneg hb
      by_cases e0 : e = 0
      · subst e0
        have HX := Lib.hid (show R = some F by rw [HR.out, if_pos rfl])
        as_aux_lemma =>
          go_wp2_with fail
          go_ret2
          exact ex_some _ _ HX.out
      · have ne0 : (e == 0) = false := by simp only [beq_eq_false_iff_ne, ne_eq]; exact e0
        have hr := HR.out
        rw [if_neg e0] at hr
        by_cases e1 : 0 < e ∧ e ≤ 37
        · rw [if_pos e1] at hr
          obtain ⟨e1a, e1b⟩ := e1
          by_cases e2 : 22 < e
          · rw [if_pos e2] at hr
            obtain ⟨j, rfl⟩ : ∃ j : Nat, e = (j : Int) + 22 := ⟨(e - 22).toNat, by omega⟩
            have ej : ((j : Int) + 22 - 22).toNat = j := by omega
            rw [ej] at hr
            have hj1 : (j : Int) < 23 := by omega
            obtain ⟨hcell, hadd⟩ := HT.out j (by omega) (by omega)
            obtain ⟨hcell2, hadd2⟩ := HT.out 22 (by omega) (by omega)
            have hm1 := fun w => run_float_arith (P := Tryz.prog) w .mul 62 .f64 _ _ _ (mul_some HFS.out j (by omega)).1
            have HF2 := Lib.hid (mul_some HFS.out j (by omega)).2
            have HR2 := Lib.hid hr
            clear hr ej e0
            obtain ⟨gb, hg⟩ : ∃ gb, (FloatKind.f64.format.order (fmul F (p10 j)) 4831355200913801216 == some Ordering.gt) = gb := ⟨_, rfl⟩
            obtain ⟨lb, hl⟩ : ∃ lb, (FloatKind.f64.format.order (fmul F (p10 j)) 14054727237768577024 == some Ordering.lt) = lb := ⟨_, rfl⟩
            have HX : Hid (R = exSel (gb || lb) (fmul (fmul F (p10 j)) (p10 22))) := Lib.hid (by rw [HR2.out]; unfold exactMul exSel; rw [hg, hl])
            have hm2 := fun w => run_float_arith (P := Tryz.prog) w .mul 62 .f64 _ _ _ (mul_some HF2.out 22 (by omega)).1
            cases gb with
            | true =>
              as_aux_lemma =>
                go_wp2_with fail
                go_ret2
                exact ex_none _ _ HX.out
            | false =>
              cases lb with
              | true =>
                as_aux_lemma =>
                  go_wp2_with fail
                  go_ret2
                  exact ex_none _ _ HX.out
              | false =>
                as_aux_lemma =>
                  go_wp2_with fail
                  go_ret2
                  exact ex_some _ _ HX.out
          · rw [if_neg e2] at hr
            obtain ⟨k, rfl⟩ : ∃ k : Nat, e = (k : Int) := ⟨e.toNat, by omega⟩
            have ek : ((k : Int)).toNat = k := by omega
            rw [ek] at hr
            have hk1 : (k : Int) < 23 := by omega
            obtain ⟨hcell, hadd⟩ := HT.out k (by omega) (by omega)
            have HR2 := Lib.hid hr
            clear hr ek e0
            obtain ⟨gb, hg⟩ : ∃ gb, (FloatKind.f64.format.order F 4831355200913801216 == some Ordering.gt) = gb := ⟨_, rfl⟩
            obtain ⟨lb, hl⟩ : ∃ lb, (FloatKind.f64.format.order F 14054727237768577024 == some Ordering.lt) = lb := ⟨_, rfl⟩
            have HX : Hid (R = exSel (gb || lb) (fmul F (p10 k))) := Lib.hid (by rw [HR2.out]; unfold exactMul exSel; rw [hg, hl])
            have hm2 := fun w => run_float_arith (P := Tryz.prog) w .mul 62 .f64 _ _ _ (mul_some HFS.out k (by omega)).1
            cases gb with
            | true =>
              as_aux_lemma =>
                go_wp2_with fail
                go_ret2
                exact ex_none _ _ HX.out
            | false =>
              cases lb with
              | true =>
                as_aux_lemma =>
                  go_wp2_with fail
                  go_ret2
                  exact ex_none _ _ HX.out
              | false =>
                as_aux_lemma =>
                  go_wp2_with fail
                  go_ret2
                  exact ex_some _ _ HX.out
        · rw [if_neg e1] at hr
          by_cases e3 : -22 ≤ e ∧ e < 0
          · rw [if_pos e3] at hr
            obtain ⟨e3a, e3b⟩ := e3
            obtain ⟨k, rfl⟩ : ∃ k : Nat, e = -(k : Int) := ⟨(-e).toNat, by omega⟩
            have ek : (-(-(k : Int))).toNat = k := by omega
            rw [ek] at hr
            have hk1 : (k : Int) < 23 := by omega
            obtain ⟨hcell, hadd⟩ := HT.out k (by omega) (by omega)
            have hd1 := fun w => run_float_arith (P := Tryz.prog) w .quo 62 .f64 _ _ _ (div_some HFS.out k (by omega))
            have HX := Lib.hid hr
            clear hr ek e0 e1
            as_aux_lemma =>
              go_wp2_with fail
              go_ret2
              exact ex_some _ _ HX.out
          · rw [if_neg e3] at hr
            have HX := Lib.hid hr
            clear hr
            by_cases e4 : 0 < e
            · have e5 : 37 < e := by omega
              clear e1 e3 e0
              as_aux_lemma =>
                go_wp2_with fail
                go_ret2
                exact ex_none _ _ HX.out
            · have e5 : e < -22 := by omega
              have e6 : e < 0 := by omega
              clear e1 e3 e0
              as_aux_lemma =>
                go_wp2_with fail
                go_ret2
                exact ex_none _ _ HX.out

end Go.Proofs.YtdabllkphibfmaaGreatDoor

/- ParseFloat at a decimal number, as far as the quick exact road goes: its contract. -/
namespace Go.Proofs.YtdabllkphibfmaaGreatDoor
open Go Go.RowKit
set_option linter.unusedSimpArgs false
set_option linter.unusedVariables false

set_option maxRecDepth 100000 in
set_option maxHeartbeats 4000000 in
theorem cpl0 (s : ByteArray) (hn : 0 < s.size) (hs : ((s[0]'hn).toNat : Int) < 65) (hl : s.size ≤ 1000000) (w : World) :
    Calls Tryz.prog 110 #[.string s, .string ⟨#[105, 110, 102, 105, 110, 105, 116, 121]⟩] w fun e w' => e = .returned (.int .i64 0) ∧ w = w' := by
  have hne : (((s[0]'hn).toNat : Int) != 105) = true := by simp only [bne_iff_ne, ne_eq]; omega
  have hne2 : (((s[0]'hn).toNat : Int) != (((⟨#[105, 110, 102, 105, 110, 105, 116, 121]⟩ : ByteArray)[0]'(by decide)).toNat : Int)) = true := hne
  have hnl : ¬ ((65 : Int) ≤ (s[0]'hn).toNat) := by omega
  go_enter Tryz.func110, Tryz.ntmps110
  go_wp2
  refine wp_loop_rounds 1 ?_
  rw [rounds_succ]
  go_wp2
  go_ret
  exact ⟨rfl, rfl⟩

/-- The first byte of a number's body: a digit or a point. -/
theorem body_head {l : List UInt8} {x : Nat × Int × Bool} (h : rfBody l = some x) : ∃ c r, l = c :: r ∧ (c = 46 ∨ isDig c = true) := by
  cases l with
  | nil => simp [rfBody, rfDigits, RS.zero] at h
  | cons c r =>
    refine ⟨c, r, rfl, ?_⟩
    by_cases h1 : c = 46
    · exact .inl h1
    · cases h2 : isDig c with
      | true => exact .inr rfl
      | false => simp [rfBody, rfDigits, h1, h2, RS.zero] at h

theorem byte_extract (s : ByteArray) (h : 1 < s.size) : ∃ h0 : 0 < (s.extract 1 s.size).size, (s.extract 1 s.size)[0]'h0 = s[1]'h := by
  have h0 : 0 < (s.extract 1 s.size).size := by simp [ByteArray.size_extract]; omega
  refine ⟨h0, ?_⟩
  simp [ByteArray.getElem_extract]

set_option maxRecDepth 100000 in
set_option maxHeartbeats 4000000 in
/-- special: no number is one. -/
theorem special0 (s : ByteArray) (hl : s.size ≤ 1000000) (x : Nat × Int × Bool × Bool) (h : rf s.data.toList = some x) (w : World) :
    Calls Tryz.prog 88 #[.string s] w fun e w' => e = .returned (.tuple #[.float .f64 0, .int .i64 0, .bool false]) ∧ w = w' := by
  have hn : 0 < s.size := by
    rcases Nat.eq_zero_or_pos s.size with h0 | h0
    · have : s.data.toList = [] := List.eq_nil_of_length_eq_zero h0
      rw [this] at h; cases h
    · exact h0
  have hz : ((s.size : Int) == 0) = false := by simp only [beq_eq_false_iff_ne, ne_eq]; omega
  have hd0 := str_drop s 0 hn
  rw [List.drop_zero] at hd0
  by_cases h45 : s[0]'hn = 45
  · have hb : ∃ y, rfBody (s.data.toList.drop 1) = some y := by
      rw [hd0] at h
      simp only [rf, h45, if_true] at h
      obtain ⟨y, hy, _⟩ := Option.map_eq_some_iff.1 h
      exact ⟨y, hy⟩
    obtain ⟨y, hy⟩ := hb
    obtain ⟨c, r, hcr, hc⟩ := body_head hy
    have h1 : 1 < s.size := by
      rcases Nat.lt_or_ge 1 s.size with h1 | h1
      · exact h1
      · have h0 : s.data.toList.drop 1 = [] := List.drop_of_length_le (by simpa using h1)
        rw [h0] at hcr; cases hcr
    obtain ⟨hx0, hx1⟩ := byte_extract s h1
    have hc1 : s[1]'h1 = c := by
      rw [str_drop s 1 h1] at hcr
      injection hcr
    have hlt : (((s.extract 1 s.size)[0]'hx0).toNat : Int) < 65 := by
      rw [hx1, hc1]
      rcases hc with rfl | hc
      · decide
      · have := dig_t hc; omega
    have HC := Lib.hid (cpl0 (s.extract 1 s.size) hx0 hlt (by simp [ByteArray.size_extract]; omega))
    have hd : 1 < (s.size : Int) := by omega
    clear hlt hx0 hx1 hc1 hc hcr hy hd0 h
    go_enter Tryz.func88, Tryz.ntmps88
    go_wp2_with (first | (go_at_call 110; refine (HC.out _).mono ?_; rintro e w1 ⟨rfl, rfl⟩))
    go_ret3
    exact ⟨rfl, rfl⟩
  · have hdg : s[0]'hn = 46 ∨ isDig (s[0]'hn) = true := by
      rw [hd0] at h
      simp only [rf, h45, if_false] at h
      obtain ⟨y, hy, _⟩ := Option.map_eq_some_iff.1 h
      obtain ⟨c, r, hcr, hc⟩ := body_head hy
      injection hcr with h1 h2
      rw [h1]
      exact hc
    obtain ⟨c, hc⟩ : ∃ c, s[0]'hn = c := ⟨_, rfl⟩
    rw [hc] at hdg h45
    have hr : 46 ≤ (c.toNat : Int) ∧ (c.toNat : Int) ≤ 57 := by
      rcases hdg with rfl | hdg
      · decide
      · have := dig_t hdg; omega
    have m43 : ((c.toNat : Int) == 43) = false := by simp only [beq_eq_false_iff_ne, ne_eq]; omega
    have m45 : ((c.toNat : Int) == 45) = false := by simp only [beq_eq_false_iff_ne, ne_eq]; omega
    have m105 : ((c.toNat : Int) == 105) = false := by simp only [beq_eq_false_iff_ne, ne_eq]; omega
    have m73 : ((c.toNat : Int) == 73) = false := by simp only [beq_eq_false_iff_ne, ne_eq]; omega
    have m110 : ((c.toNat : Int) == 110) = false := by simp only [beq_eq_false_iff_ne, ne_eq]; omega
    have m78 : ((c.toNat : Int) == 78) = false := by simp only [beq_eq_false_iff_ne, ne_eq]; omega
    clear hr hdg h45 hd0 h
    go_enter Tryz.func88, Tryz.ntmps88
    go_wp2
    go_ret3
    exact ⟨rfl, rfl⟩

end Go.Proofs.YtdabllkphibfmaaGreatDoor

/- ParseFloat at a decimal number, as far as the quick exact road goes: its contract. -/
namespace Go.Proofs.YtdabllkphibfmaaGreatDoor
open Go Go.RowKit
set_option linter.unusedSimpArgs false
set_option linter.unusedVariables false

/-- The sign's bit. -/
def sgnF (neg : Bool) : Nat := if neg then 9223372036854775808 else 0

theorem bool2u (b : Bool) (w : World) : Calls Tryz.prog 97 #[.bool b] w fun e w' => e = .returned (.int .u64 (if b then 1 else 0)) ∧ w = w' := by
  cases b
  all_goals
    go_enter Tryz.func97, Tryz.ntmps97
    go_wp2
    go_ret
    exact ⟨rfl, rfl⟩

theorem fromBits (b : Nat) (w : World) : (Extern.MathFloatBits.float64frombits #[.int .u64 b]).run Tryz.prog w = .ok (.float .f64 b) w := by kernel_rfl

theorem or_sign : bits .or .u64 9223372036854775808 0 = ((sgnF true : Nat) : Int) := by decide +kernel
theorem or_zero : bits .or .u64 0 0 = ((sgnF false : Nat) : Int) := by decide +kernel

def AfPost (b : Nat) (n : Nat) (w : World) (e : Ending) (w' : World) : Prop :=
  e = .returned (.tuple #[.float .f64 b, .int .i64 n, .nilIface]) ∧ ∃ k, w' = w.drewN k

set_option maxRecDepth 1000000 in
set_option maxHeartbeats 40000000 in
/-- Nought. -/
theorem atof64_zero (s : ByteArray) (hal : ∀ c ∈ s.data.toList, isNumC c = true) (hl : s.size ≤ 1000000) (w0 : World) (hf : FloVars w0) (w : World) (ho : Old w0 w) (e : Int) (neg tr : Bool) (h : rf s.data.toList = some (0, e, neg, tr)) :
    Calls Tryz.prog 78 #[.string s] w (AfPost (sgnF neg) s.size w) := by
  have h98 := @run_callFunc_extern Tryz.prog 98 _ Extern.MathFloatBits.float64frombits Tryz.func98 (by kernel_rfl) (by kernel_rfl) (by kernel_rfl) (by kernel_rfl)
  have h7 := ho.cell hf.opt
  have HS := Lib.hid (special0 s hl _ h)
  have HR := Lib.hid (fun w => readFloat s hal hl w _ _ _ _ h)
  clear hf ho hal h
  cases neg with
  | true =>
    have hfb : ∀ w, (Extern.MathFloatBits.float64frombits #[.int .u64 (bits .or .u64 9223372036854775808 0)]).run Tryz.prog w = .ok (.float .f64 (sgnF true)) w := fun w => by rw [or_sign]; exact fromBits (sgnF true) w
    go_enter Tryz.func78, Tryz.ntmps78
    go_wp2_with (first
      | (go_at_call 88; refine (HS.out _).mono ?_; rintro e w1 ⟨rfl, rfl⟩)
      | (go_at_call 89; refine (HR.out _).mono ?_; rintro e w1 ⟨rfl, rfl⟩)
      | (go_at_call 97; refine (bool2u _ _).mono ?_; rintro e w1 ⟨rfl, rfl⟩))
    go_ret3
    exact ⟨rfl, 0, rfl⟩
  | false =>
    have hfb : ∀ w, (Extern.MathFloatBits.float64frombits #[.int .u64 (bits .or .u64 0 0)]).run Tryz.prog w = .ok (.float .f64 (sgnF false)) w := fun w => by rw [or_zero]; exact fromBits (sgnF false) w
    go_enter Tryz.func78, Tryz.ntmps78
    go_wp2_with (first
      | (go_at_call 88; refine (HS.out _).mono ?_; rintro e w1 ⟨rfl, rfl⟩)
      | (go_at_call 89; refine (HR.out _).mono ?_; rintro e w1 ⟨rfl, rfl⟩)
      | (go_at_call 97; refine (bool2u _ _).mono ?_; rintro e w1 ⟨rfl, rfl⟩))
    go_ret3
    exact ⟨rfl, 0, rfl⟩

set_option maxRecDepth 1000000 in
set_option maxHeartbeats 40000000 in
/-- The exact road. -/
theorem atof64_exact (s : ByteArray) (hal : ∀ c ∈ s.data.toList, isNumC c = true) (hl : s.size ≤ 1000000) (w0 : World) (hf : FloVars w0) (w : World) (ho : Old w0 w) (m : Nat) (hm0 : m ≠ 0) (hm : m < 18446744073709551616) (e : Int) (he1 : -345 ≤ e) (he2 : e ≤ 310) (neg : Bool) (b : Nat) (h : rf s.data.toList = some (m, e, neg, false)) (hx : exactF m e neg = some b) :
    Calls Tryz.prog 78 #[.string s] w (AfPost b s.size w) := by
  have h7 := ho.cell hf.opt
  have HS := Lib.hid (special0 s hl _ h)
  have HR := Lib.hid (fun w => readFloat s hal hl w _ _ _ _ h)
  have hex : Calls Tryz.prog 99 #[.int .u64 m, .int .i64 e, .bool neg] w fun e' w' => e' = .returned (.tuple #[.float .f64 b, .bool true]) ∧ ∃ k, w' = w.drewN k := by
    refine (atofExact w0 hf m hm e ⟨by omega, by omega⟩ neg w ho).mono ?_
    rintro e' w' ⟨b', ok, rfl, hr, k, rfl⟩
    rw [hx] at hr
    cases ok with
    | false => cases hr
    | true =>
      have hr2 := Option.some.inj hr
      subst hr2
      exact ⟨rfl, k, rfl⟩
  have HX := Lib.hid hex
  have nm0 : ((m : Int) == 0) = false := by simp only [beq_eq_false_iff_ne, ne_eq]; omega
  clear hf ho hal h hm hx hm0 hex
  cases neg
  all_goals
    go_enter Tryz.func78, Tryz.ntmps78
    go_wp2_with (first
      | (go_at_call 88; refine (HS.out _).mono ?_; rintro e w1 ⟨rfl, rfl⟩)
      | (go_at_call 89; refine (HR.out _).mono ?_; rintro e w1 ⟨rfl, rfl⟩)
      | (go_at_call 97; refine (bool2u _ _).mono ?_; rintro e w1 ⟨rfl, rfl⟩)
      | (go_at_call 99; refine (HX.out).mono ?_; rintro e w1 ⟨rfl, k, rfl⟩))
    go_ret3
    exact ⟨rfl, k, rfl⟩

theorem pfPrefix (s : ByteArray) (b : Nat) (w : World) (h : Calls Tryz.prog 78 #[.string s] w (AfPost b s.size w)) : Calls Tryz.prog 55 #[.string s, .int .i64 64] w (AfPost b s.size w) := by
  have H := Lib.hid h
  clear h
  go_enter Tryz.func55, Tryz.ntmps55
  go_wp2_with (first | (go_at_call 78; refine (H.out).mono ?_; rintro e w1 ⟨rfl, k, rfl⟩))
  go_ret3
  exact ⟨rfl, k, rfl⟩

def Pf2Post (b : Nat) (w : World) (e : Ending) (w' : World) : Prop :=
  e = .returned (.tuple #[.float .f64 b, .nilIface]) ∧ ∃ k, w' = w.drewN k

theorem pfInner (s : ByteArray) (b : Nat) (w : World) (h : Calls Tryz.prog 78 #[.string s] w (AfPost b s.size w)) : Calls Tryz.prog 40 #[.string s, .int .i64 64] w (Pf2Post b w) := by
  have H := Lib.hid (pfPrefix s b w h)
  clear h
  go_enter Tryz.func40, Tryz.ntmps40
  go_wp2_with (first | (go_at_call 55; refine (H.out).mono ?_; rintro e w1 ⟨rfl, k, rfl⟩))
  go_ret2
  exact ⟨rfl, k, rfl⟩

theorem pfOuter (s : ByteArray) (b : Nat) (w : World) (h : Calls Tryz.prog 78 #[.string s] w (AfPost b s.size w)) : Calls Tryz.prog 28 #[.string s, .int .i64 64] w (Pf2Post b w) := by
  have H := Lib.hid (pfInner s b w h)
  clear h
  go_enter Tryz.func28, Tryz.ntmps28
  go_wp2_with (first | (go_at_call 40; refine (H.out).mono ?_; rintro e w1 ⟨rfl, k, rfl⟩))
  go_ret2
  exact ⟨rfl, k, rfl⟩

/-- What ParseFloat gives on the quick roads: nought, and what is exact. -/
def pfNum (x : Nat × Int × Bool × Bool) : Option (Option Nat) :=
  if x.1 = 0 then some (some (sgnF x.2.2.1))
  else if x.2.2.2 = true ∨ 18446744073709551616 ≤ x.1 ∨ x.2.1 < -345 ∨ 310 < x.2.1 then none
  else (exactF x.1 x.2.1 x.2.2.1).map some

def pfQuick (l : List UInt8) : Option (Option Nat) :=
  if l.all isNumC = true ∧ l.length ≤ 1000000 then (rf l).bind pfNum else none

theorem pfQuick_C (w0 : World) (hf : FloVars w0) : PfC w0 pfQuick := by
  intro txt w r ho h
  unfold pfQuick at h
  split at h
  · rename_i hc
    obtain ⟨hal, hl⟩ := hc
    obtain ⟨⟨m, e, neg, tr⟩, hrf, hn⟩ := Option.bind_eq_some_iff.1 h
    have hal' : ∀ c ∈ (⟨txt.toArray⟩ : ByteArray).data.toList, isNumC c = true := List.all_eq_true.1 hal
    have hl' : (⟨txt.toArray⟩ : ByteArray).size ≤ 1000000 := by simpa [ByteArray.size] using hl
    have hfin : ∀ b, Calls Tryz.prog 78 #[.string ⟨txt.toArray⟩] w (AfPost b (⟨txt.toArray⟩ : ByteArray).size w) → r = some b → Calls Tryz.prog 28 #[.string ⟨txt.toArray⟩, .int .i64 64] w (PfPost w.heap.size w r) := by
      rintro b hb rfl
      refine (pfOuter _ b w hb).mono ?_
      rintro e w' ⟨rfl, k, rfl⟩
      exact ⟨⟨_, _, rfl, rfl, rfl⟩, ⟨rfl, rfl, rfl, Nat.le_refl _, fun _ _ => rfl⟩⟩
    unfold pfNum at hn
    simp only at hn
    split at hn
    · rename_i h0
      subst h0
      exact hfin _ (atof64_zero _ hal' hl' w0 hf w ho e neg tr hrf) (Option.some.inj hn).symm
    · rename_i h0
      split at hn
      · cases hn
      · rename_i h1
        obtain ⟨b, hb, rfl⟩ := Option.map_eq_some_iff.1 hn
        have htr : tr = false := by cases tr <;> simp_all
        subst htr
        exact hfin b (atof64_exact _ hal' hl' w0 hf w ho m h0 (by omega) e (by omega) (by omega) neg b hrf hb) rfl
  · cases h

end Go.Proofs.YtdabllkphibfmaaGreatDoor
