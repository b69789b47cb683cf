/- atof64exact, by its contract. -/
import Derived.Test.YtdabllkphibfmaaGreatDoorNumA
import Derived.Laws.FloatArith
import Derived.Deep.CutBlock
import Derived.Deep.DeepCutAuto
namespace Go.Proofs.YtdabllkphibfmaaGreatDoor
open Go Go.RowKit
set_option linter.unusedSimpArgs false
set_option linter.unusedVariables false

/-- The bits of the powers of ten that are exact. -/
def p10s : List Nat := [4607182418800017408, 4621819117588971520, 4636737291354636288, 4652007308841189376, 4666723172467343360, 4681608360884174848, 4696837146684686336, 4711630319722168320, 4726483295884279808, 4741671816366391296, 4756540486875873280, 4771362005757984768, 4786511204640096256, 4801453603149578240, 4816244402031689728, 4831355200913801216, 4846369599423283200, 4861130398305394688, 4876203697187506176, 4891288408196988160, 4906019910204099648, 4921056587992461136, 4936209963552724370]
def p10 (i : Nat) : Nat := p10s.getD i 0

/-- What the conversion reads of the library's variables. -/
structure FloVars (w0 : World) : Prop where
  info : w0.cell? ⟨8, 0, none⟩ = some (.int .u64 52)
  opt : w0.cell? ⟨7, 0, none⟩ = some (.bool true)
  tab : ∃ a c, w0.cell? ⟨14, 0, none⟩ = some (.slice (some a) 23 c) ∧ ∀ i, i < 23 → w0.cell? (a.add i) = some (.float .f64 (p10 i))

theorem Old.cellA {w0 w : World} (h : Old w0 w) {p : Addr} {v : Value} (hc : w0.cell? p = some v) : w.cell? p = some v :=
  (World.cell?_of_block (h.block p.block (World.block_lt_of_cell? w0 p hc))).trans hc

def fmul (x y : Nat) : Nat := (FloatKind.f64.format.mul x y).getD 0
def fdiv (x y : Nat) : Nat := (FloatKind.f64.format.div x y).getD 0
def fneg (x : Nat) : Nat := Op.negFloat .f64 x

/-- No NaN. -/
def Fin (x : Nat) : Prop := (FloatKind.f64.format.read x).isNaN = false

theorem fin_word (neg : Bool) (rung : Nat) (h : rung ≤ FloatKind.f64.format.infRung) : Fin (FloatKind.f64.format.word neg rung) := by
  have hs : FloatKind.f64.format.infRung < FloatKind.f64.format.signWeight := Ieee.Format.infRung_lt _
  have hm : FloatKind.f64.format.word neg rung % FloatKind.f64.format.signWeight = rung := by
    unfold Ieee.Format.word
    split
    · rw [Nat.add_mod_left, Nat.mod_eq_of_lt (by omega)]
    · exact Nat.mod_eq_of_lt (by omega)
  unfold Fin Ieee.Format.read
  simp only [hm]
  split
  · rfl
  · split
    · rfl
    · rw [if_pos (by omega)]; rfl

theorem fin_number (neg : Bool) (mag : Nat) (place : Int) : Fin (FloatKind.f64.format.write (.number neg mag place)) := by
  show Fin (FloatKind.f64.format.nearest neg mag place)
  unfold Ieee.Format.nearest
  split
  · exact fin_word _ _ (Nat.zero_le _)
  · exact fin_word _ _ (Nat.min_le_right _ _)

theorem fin_inf (neg : Bool) : Fin (FloatKind.f64.format.write (.infinity neg)) := fin_word _ _ (Nat.le_refl _)

theorem fin_int (n : Int) : Fin (floatOfInt .f64 n) := fin_number _ _ _

theorem p10_num : ∀ i : _root_.Fin 23, ∃ s m e, FloatKind.f64.format.read (p10 i.val) = .number s (m + 1) e := by
  intro i
  have h : ∀ i : _root_.Fin 23, (match FloatKind.f64.format.read (p10 i.val) with | .number s (m + 1) e => true | _ => false) = true := by decide +kernel
  have hi := h i
  split at hi
  · exact ⟨_, _, _, by assumption⟩
  · cases hi

theorem mul_some {x : Nat} (hx : Fin x) (i : Nat) (hi : i < 23) : FloatKind.f64.format.mul x (p10 i) = some (fmul x (p10 i)) ∧ Fin (fmul x (p10 i)) := by
  obtain ⟨s, m, e, hp⟩ := p10_num ⟨i, hi⟩
  simp only at hp
  unfold fmul Ieee.Format.mul
  rw [hp]
  unfold Fin at hx
  cases hr : FloatKind.f64.format.read x with
  | nan s t => rw [hr] at hx; cases hx
  | infinity t => exact ⟨rfl, fin_inf _⟩
  | number t n j => exact ⟨rfl, fin_number _ _ _⟩

theorem div_some {x : Nat} (hx : Fin x) (i : Nat) (hi : i < 23) : FloatKind.f64.format.div x (p10 i) = some (fdiv x (p10 i)) := by
  obtain ⟨s, m, e, hp⟩ := p10_num ⟨i, hi⟩
  simp only at hp
  unfold fdiv Ieee.Format.div
  rw [hp]
  unfold Fin at hx
  cases hr : FloatKind.f64.format.read x with
  | nan s t => rw [hr] at hx; cases hx
  | infinity t => rfl
  | number t n j => simp [Ieee.Datum.quotient]

/-- A product with a power of ten, if the number is not too great. -/
def exactMul (f k : Nat) : Option Nat :=
  if (FloatKind.f64.format.order f 4831355200913801216 == some .gt) || (FloatKind.f64.format.order f 14054727237768577024 == some .lt) then none else some (fmul f (p10 k))

def signF (m : Nat) (neg : Bool) : Nat := if neg then fneg (floatOfInt .f64 m) else floatOfInt .f64 m

theorem sign_true (m : Nat) : signF m true = fneg (floatOfInt .f64 m) := by unfold signF; exact if_pos rfl
theorem sign_false (m : Nat) : signF m false = floatOfInt .f64 m := by unfold signF; exact if_neg (by decide)

/-- What atof64exact gives. -/
def exactF (m : Nat) (e : Int) (neg : Bool) : Option Nat :=
  if 4503599627370496 ≤ m then none
  else if e = 0 then some (signF m neg)
  else if 0 < e ∧ e ≤ 37 then
    if 22 < e then exactMul (fmul (signF m neg) (p10 (e - 22).toNat)) 22 else exactMul (signF m neg) e.toNat
  else if -22 ≤ e ∧ e < 0 then some (fdiv (signF m neg) (p10 (-e).toNat))
  else none

theorem fin_neg {x : Nat} (h : Fin x) : Fin (fneg x) := by
  have hs : FloatKind.f64.format.signWeight = 2 ^ 63 := rfl
  have hm : fneg x % FloatKind.f64.format.signWeight = x % FloatKind.f64.format.signWeight := by
    show (x ^^^ 2 ^ 63) % FloatKind.f64.format.signWeight = _
    rw [hs, Nat.xor_mod_two_pow, Nat.mod_self, Nat.xor_zero]
  unfold Fin Ieee.Format.read at h ⊢
  simp only [hm]
  simp only at h
  split
  · rfl
  · rename_i h1
    rw [if_neg h1] at h
    split
    · rfl
    · rename_i h2
      rw [if_neg h2] at h
      split
      · rfl
      · rename_i h3
        rw [if_neg h3] at h
        cases h

theorem fin_sign (m : Nat) (neg : Bool) : Fin (signF m neg) := by
  unfold signF
  split
  · exact fin_neg (fin_int m)
  · exact fin_int m

/-- What the call gives. -/
def ExPost (r : Option Nat) (w : World) (e : Ending) (w' : World) : Prop :=
  ∃ b ok, e = .returned (.tuple #[.float .f64 b, .bool ok]) ∧ r = (if ok then some b else none) ∧ ∃ n, w' = w.drewN n

/-- None, if it was too great. -/
def exSel (b : Bool) (x : Nat) : Option Nat := if b = true then none else some x

theorem ex_none {r : Option Nat} (b : Nat) (w : World) (h : r = none) : ExPost r w (.returned (.tuple #[.float .f64 b, .bool false])) w := ⟨b, false, rfl, h, 0, rfl⟩
theorem ex_some {r : Option Nat} (b : Nat) (w : World) (h : r = some b) : ExPost r w (.returned (.tuple #[.float .f64 b, .bool true])) w := ⟨b, true, rfl, h, 0, rfl⟩

set_option maxRecDepth 1000000 in
set_option maxHeartbeats 40000000 in
theorem atofExact (w0 : World) (hf : FloVars w0) (m : Nat) (hm : m < 18446744073709551616) (e : Int) (he : -2000000 ≤ e ∧ e ≤ 2000000) (neg : Bool) (w : World) (ho : Old w0 w) :
    Calls Tryz.prog 99 #[.int .u64 m, .int .i64 e, .bool neg] w (ExPost (exactF m e neg) w) := by
  have h8 := ho.cell hf.info
  obtain ⟨⟨T, o, x⟩, c, h14, ht⟩ := hf.tab
  have h14 := ho.cell h14
  have ht : ∀ i : Nat, 0 < i → i < 23 → w.cell? ⟨T, o + i, none⟩ = some (.float .f64 (p10 i)) ∧ (⟨T, o, x⟩ : Addr).add i = ⟨T, o + i, none⟩ := fun i h0 hi => by
    have e : (⟨T, o, x⟩ : Addr).add i = ⟨T, o + i, none⟩ := by unfold Addr.add; rw [if_neg (by omega)]
    have := ho.cellA (ht i hi)
    rw [e] at this
    exact ⟨this, e⟩
  have HT := Lib.hid ht
  obtain ⟨he1, he2⟩ := he
  clear ht ho hf
  by_cases hbig : 4503599627370496 ≤ m
  · have hb : ((m : Int) / 4503599627370496 != 0) = true := by simp only [bne_iff_ne, ne_eq]; omega
    have hr : exactF m e neg = none := by unfold exactF; rw [if_pos hbig]
    have HR := Lib.hid hr
    clear hbig hr
    as_aux_lemma =>
    go_enter Tryz.func99, Tryz.ntmps99
    go_wp2_with fail
    go_ret2
    exact ex_none _ _ HR.out
  · have hb : ((m : Int) / 4503599627370496 != 0) = false := by simp only [bne_eq_false_iff_eq]; omega
    have hfs := fin_sign m neg
    have hr : exactF m e neg = (if e = 0 then some (signF m neg)
      else if 0 < e ∧ e ≤ 37 then
        if 22 < e then exactMul (fmul (signF m neg) (p10 (e - 22).toNat)) 22 else exactMul (signF m neg) e.toNat
      else if -22 ≤ e ∧ e < 0 then some (fdiv (signF m neg) (p10 (-e).toNat))
      else none) := by unfold exactF; rw [if_neg hbig]
    obtain ⟨R, hR⟩ : ∃ R, R = exactF m e neg := ⟨_, rfl⟩
    rw [← hR] at hr ⊢
    obtain ⟨F, hF⟩ : ∃ F, F = signF m neg := ⟨_, rfl⟩
    rw [← hF] at hr hfs
    have HF := Lib.hid hF
    have HR := Lib.hid hr
    have HFS := Lib.hid hfs
    clear hbig hr hF hR hfs
    have hneg : ∀ (x : Nat) (w : World), (Op.unary .neg (.float .f64 x)).run Tryz.prog w = .ok (.float .f64 (fneg x)) w := fun _ _ => rfl
    go_enter Tryz.func99, Tryz.ntmps99
    go_upto_if 15 with fail
    go_cut [6] (fun v wx => v = .float .f64 F ∧ w = wx)
    case first =>
     as_aux_lemma =>
      cases neg with
      | true =>
        have HG := Lib.hid (HF.out.trans (sign_true m))
        go_wp2_with fail
        go_meet
        exact ⟨by rw [HG.out], rfl⟩
      | false =>
        have HG := Lib.hid (HF.out.trans (sign_false m))
        go_wp2_with fail
        go_meet
        exact ⟨by rw [HG.out], rfl⟩
    case rest =>
     as_aux_lemma =>
      obtain ⟨rfl, rfl⟩ := hcut
      clear hneg hb
      by_cases e0 : e = 0
      · subst e0
        have HX := Lib.hid (show R = some F by rw [HR.out, if_pos rfl])
        as_aux_lemma =>
          go_wp2_with fail
          go_ret2
          exact ex_some _ _ HX.out
      · have ne0 : (e == 0) = false := by simp only [beq_eq_false_iff_ne, ne_eq]; exact e0
        have hr := HR.out
        rw [if_neg e0] at hr
        by_cases e1 : 0 < e ∧ e ≤ 37
        · rw [if_pos e1] at hr
          obtain ⟨e1a, e1b⟩ := e1
          by_cases e2 : 22 < e
          · rw [if_pos e2] at hr
            obtain ⟨j, rfl⟩ : ∃ j : Nat, e = (j : Int) + 22 := ⟨(e - 22).toNat, by omega⟩
            have ej : ((j : Int) + 22 - 22).toNat = j := by omega
            rw [ej] at hr
            have hj1 : (j : Int) < 23 := by omega
            obtain ⟨hcell, hadd⟩ := HT.out j (by omega) (by omega)
            obtain ⟨hcell2, hadd2⟩ := HT.out 22 (by omega) (by omega)
            have hm1 := fun w => run_float_arith (P := Tryz.prog) w .mul 62 .f64 _ _ _ (mul_some HFS.out j (by omega)).1
            have HF2 := Lib.hid (mul_some HFS.out j (by omega)).2
            have HR2 := Lib.hid hr
            clear hr ej e0
            obtain ⟨gb, hg⟩ : ∃ gb, (FloatKind.f64.format.order (fmul F (p10 j)) 4831355200913801216 == some Ordering.gt) = gb := ⟨_, rfl⟩
            obtain ⟨lb, hl⟩ : ∃ lb, (FloatKind.f64.format.order (fmul F (p10 j)) 14054727237768577024 == some Ordering.lt) = lb := ⟨_, rfl⟩
            have HX : Hid (R = exSel (gb || lb) (fmul (fmul F (p10 j)) (p10 22))) := Lib.hid (by rw [HR2.out]; unfold exactMul exSel; rw [hg, hl])
            have hm2 := fun w => run_float_arith (P := Tryz.prog) w .mul 62 .f64 _ _ _ (mul_some HF2.out 22 (by omega)).1
            cases gb with
            | true =>
              as_aux_lemma =>
                go_wp2_with fail
                go_ret2
                exact ex_none _ _ HX.out
            | false =>
              cases lb with
              | true =>
                as_aux_lemma =>
                  go_wp2_with fail
                  go_ret2
                  exact ex_none _ _ HX.out
              | false =>
                as_aux_lemma =>
                  go_wp2_with fail
                  go_ret2
                  exact ex_some _ _ HX.out
          · rw [if_neg e2] at hr
            obtain ⟨k, rfl⟩ : ∃ k : Nat, e = (k : Int) := ⟨e.toNat, by omega⟩
            have ek : ((k : Int)).toNat = k := by omega
            rw [ek] at hr
            have hk1 : (k : Int) < 23 := by omega
            obtain ⟨hcell, hadd⟩ := HT.out k (by omega) (by omega)
            have HR2 := Lib.hid hr
            clear hr ek e0
            obtain ⟨gb, hg⟩ : ∃ gb, (FloatKind.f64.format.order F 4831355200913801216 == some Ordering.gt) = gb := ⟨_, rfl⟩
            obtain ⟨lb, hl⟩ : ∃ lb, (FloatKind.f64.format.order F 14054727237768577024 == some Ordering.lt) = lb := ⟨_, rfl⟩
            have HX : Hid (R = exSel (gb || lb) (fmul F (p10 k))) := Lib.hid (by rw [HR2.out]; unfold exactMul exSel; rw [hg, hl])
            have hm2 := fun w => run_float_arith (P := Tryz.prog) w .mul 62 .f64 _ _ _ (mul_some HFS.out k (by omega)).1
            cases gb with
            | true =>
              as_aux_lemma =>
                go_wp2_with fail
                go_ret2
                exact ex_none _ _ HX.out
            | false =>
              cases lb with
              | true =>
                as_aux_lemma =>
                  go_wp2_with fail
                  go_ret2
                  exact ex_none _ _ HX.out
              | false =>
                as_aux_lemma =>
                  go_wp2_with fail
                  go_ret2
                  exact ex_some _ _ HX.out
        · rw [if_neg e1] at hr
          by_cases e3 : -22 ≤ e ∧ e < 0
          · rw [if_pos e3] at hr
            obtain ⟨e3a, e3b⟩ := e3
            obtain ⟨k, rfl⟩ : ∃ k : Nat, e = -(k : Int) := ⟨(-e).toNat, by omega⟩
            have ek : (-(-(k : Int))).toNat = k := by omega
            rw [ek] at hr
            have hk1 : (k : Int) < 23 := by omega
            obtain ⟨hcell, hadd⟩ := HT.out k (by omega) (by omega)
            have hd1 := fun w => run_float_arith (P := Tryz.prog) w .quo 62 .f64 _ _ _ (div_some HFS.out k (by omega))
            have HX := Lib.hid hr
            clear hr ek e0 e1
            as_aux_lemma =>
              go_wp2_with fail
              go_ret2
              exact ex_some _ _ HX.out
          · rw [if_neg e3] at hr
            have HX := Lib.hid hr
            clear hr
            by_cases e4 : 0 < e
            · have e5 : 37 < e := by omega
              clear e1 e3 e0
              as_aux_lemma =>
                go_wp2_with fail
                go_ret2
                exact ex_none _ _ HX.out
            · have e5 : e < -22 := by omega
              have e6 : e < 0 := by omega
              clear e1 e3 e0
              as_aux_lemma =>
                go_wp2_with fail
                go_ret2
                exact ex_none _ _ HX.out

end Go.Proofs.YtdabllkphibfmaaGreatDoor
