/- Floats as decimals: shortFloat gives one answer. -/
import Derived.Test.YtpkfdbhpmhahaaaGreatDoorFea
import Derived.Deep.DeepCutAuto
import Derived.Deep.CutRange
import Derived.WalkMore
import Derived.Lib.RabinKarpLaws
namespace Go.Proofs.YtpkfdbhpmhahaaaGreatDoor
open Go Go.RowKit Go.Lib
set_option linter.unusedSimpArgs false
set_option linter.unusedVariables false

/-- The place, the least and the greatest, the last bit. -/
def sfH (m : Nat) (e : Int) : Int × Int × Int × Int :=
  if m = 9223372036854775808 ∧ -1085 < e then (-(((e + 11) * 631305 - 261663) / 2097152), IntKind.u64.wrap ((m : Int) - 512), IntKind.u64.wrap ((m : Int) + 1024), ((m / 2048 % 2 : Nat) : Int))
  else if -1085 ≤ e then (-((e + 11) * 78913 / 262144), IntKind.u64.wrap ((m : Int) - 1024), IntKind.u64.wrap ((m : Int) + 1024), ((m / 2048 % 2 : Nat) : Int))
  else (-(-1074 * 78913 / 262144), IntKind.u64.wrap ((m : Int) - 2 ^ (-1074 - e - 1).toNat), IntKind.u64.wrap ((m : Int) + 2 ^ (-1074 - e - 1).toNat), ((m / 2 ^ (-1074 - e).toNat % 2 : Nat) : Int))

theorem sfH_in (m : Nat) (e : Int) : InU (sfH m e).2.1 ∧ InU (sfH m e).2.2.1 ∧ 0 ≤ (sfH m e).2.2.2 ∧ (sfH m e).2.2.2 ≤ 1 := by
  unfold sfH
  split
  · exact ⟨wrap_u _, wrap_u _, by simp only; omega, by simp only; omega⟩
  · split
    · exact ⟨wrap_u _, wrap_u _, by simp only; omega, by simp only; omega⟩
    · exact ⟨wrap_u _, wrap_u _, by simp only; omega, by simp only; omega⟩
theorem sfH_place (m : Nat) (e : Int) (he : -1137 ≤ e ∧ e ≤ 971) : -300 ≤ (sfH m e).1 ∧ (sfH m e).1 ≤ 330 ∧ 0 ≤ -(e + (sfH m e).1 * 108853 / 32768 + 3) ∧ -(e + (sfH m e).1 * 108853 / 32768 + 3) < 64 := by
  unfold sfH
  split
  · simp only; omega
  · split
    · simp only; omega
    · simp only; omega

theorem below_nn {B : Nat} {a w : World} (h : Below B a w) (n : Nat) : Below B a (w.drewN n) := ⟨h.os, h.tape, h.output, h.size, h.block⟩
theorem below_one' (wr : World) (o : Obj) : Below wr.heap.size wr (wr.alloc o) := (Below.refl _ wr).alloc (Nat.le_refl _) _
theorem pre_below {w w1 : World} {o : Obj} (h : Below w.heap.size (w.alloc o) w1) : Below w.heap.size w w1 := (below_one' w o).trans h

theorem pow_u (z : Nat) (hz : z < 63) : IntKind.u64.wrap ((2 : Int) ^ z) = 2 ^ z := by
  have h1 : (2 : Int) ^ z = ((2 ^ z : Nat) : Int) := by simp
  have h2 : 2 ^ z < 18446744073709551616 := Nat.lt_of_lt_of_le (Nat.pow_lt_pow_right (by decide) hz) (by decide)
  rw [h1, IntKind.wrap_u64]
  generalize 2 ^ z = N at h2
  omega
theorem quo_low (m z : Nat) (hm : m < 18446744073709551616) (hz : 1 ≤ z) : bits .and .i64 (wrap64 ((m : Int) / 2 ^ z)) 1 = ((m / 2 ^ z % 2 : Nat) : Int) := by
  have h1 : (m : Int) / 2 ^ z = ((m / 2 ^ z : Nat) : Int) := by simp
  have h2 : m / 2 ^ z < 9223372036854775808 := by
    have h3 : 2 ^ 1 ≤ 2 ^ z := Nat.pow_le_pow_right (by decide) hz
    have h4 : m / 2 ^ z ≤ m / 2 ^ 1 := Nat.div_le_div_left h3 (by decide)
    omega
  rw [h1, ← and_one _ h2]
  generalize m / 2 ^ z = N at h2
  congr 1
  unfold wrap64
  omega

/-- A number and a place are given back. -/
def RetDP (d p : Int) (w : World) (e : Ending) (w' : World) : Prop := e = .returned (.tuple #[.int .u64 d, .int .i64 p]) ∧ Below w.heap.size w w'

set_option maxRecDepth 100000 in
set_option maxHeartbeats 4000000 in
theorem sf_walk (m : Nat) (hm : m < 18446744073709551616) (e : Int) (he : -1137 ≤ e ∧ e ≤ 971) (P mn mx od : Int) (hh : sfH m e = (P, mn, mx, od)) (hP : -300 ≤ P ∧ P ≤ 330) (hod : 0 ≤ od ∧ od ≤ 1) (lp S hi lo : Int) (hlpb : -1200 ≤ lp ∧ lp ≤ 1200)
    (HP : ∀ w, Calls Tryz.prog 158 #[.int .i64 P] w fun e w' => e = .returned (.int .i64 lp) ∧ w = w') (w : World)
    (HPR : Calls Tryz.prog 157 #[.pointer (some ⟨w.heap.size, 0, none⟩), .int .i64 e, .int .i64 P, .int .i64 lp] (w.alloc (.cells #[.int .u64 0, .int .u64 0, .int .i64 0] 219)) (PrePost w.heap.size hi lo S (w.alloc (.cells #[.int .u64 0, .int .u64 0, .int .i64 0] 219))))
    (u1 u2 u3 : Int) (hu1 : InU u1) (hu2 : InU u2) (hu3 : InU u3)
    (HU1 : ∀ (g : Nat) (w : World), w.heap[g]? = some (.cells #[.int .u64 hi, .int .u64 lo, .int .i64 S] 219 (0, 0)) → Calls Tryz.prog 159 #[.int .u64 mn, .pointer (some ⟨g, 0, none⟩)] w (RetI .u64 u1 w))
    (HU2 : ∀ (g : Nat) (w : World), w.heap[g]? = some (.cells #[.int .u64 hi, .int .u64 lo, .int .i64 S] 219 (0, 0)) → Calls Tryz.prog 159 #[.int .u64 mx, .pointer (some ⟨g, 0, none⟩)] w (RetI .u64 u2 w))
    (HU3 : ∀ (g : Nat) (w : World), w.heap[g]? = some (.cells #[.int .u64 hi, .int .u64 lo, .int .i64 S] 219 (0, 0)) → Calls Tryz.prog 159 #[.int .u64 (m : Int), .pointer (some ⟨g, 0, none⟩)] w (RetI .u64 u3 w))
    (dmin dmax : Int) (hdmin : dmin = ceilF (nudF u1 od)) (hdmax : dmax = floorF (nudF u2 (-od))) (hd1 : InU dmin) (hd2 : InU dmax)
    (r : Int) (HR : ∀ w, Calls Tryz.prog 163 #[.int .u64 u3] w fun e w' => e = .returned (.int .u64 r) ∧ w = w')
    (c1 c2 : Bool) (hc1 : decide (dmin ≤ dmax / 10 * 10) = c1) (hc2 : decide (dmin < dmax) = c2) (dR pR : Int) (hdR : dR = if c1 then dmax / 10 else if c2 then r else dmin) (hpR : pR = if c1 then -(P - 1) else -P) :
    Calls Tryz.prog 145 #[.int .u64 (m : Int), .int .i64 e] w (RetDP dR pR w) := by
  have HU1' := Lib.hid HU1
  have HU2' := Lib.hid HU2
  have HU3' := Lib.hid HU3
  have HP' := Lib.hid HP
  have HPR' := Lib.hid HPR
  have HR' := Lib.hid HR
  have HH := Lib.hid hh
  have HD := Lib.hid (And.intro hdmin hdmax)
  have HC := Lib.hid (And.intro hc1 hc2)
  have HRR := Lib.hid (And.intro hdR hpR)
  unfold InU at hd1 hd2 hu1 hu2 hu3
  clear HU1 HU2 HU3 HP HPR HR hh hdmin hdmax hc1 hc2 hdR hpR
  go_enter Tryz.func145, Tryz.ntmps145
  go_upto_region 12 with fail
  obtain ⟨T0, hT0⟩ : ∃ b : Bool, b = decide (m = 9223372036854775808 ∧ -1085 < e) := ⟨_, rfl⟩
  have HT0 := Lib.hid hT0
  clear hT0
  go_cut [28] from 22 to 28 (fun v wx => v = .bool T0 ∧ w = wx)
  case first =>
    by_cases a1 : m = 9223372036854775808
    · by_cases a2 : -1085 < e
      · have f1 : (((m : Nat) : Int) == 9223372036854775808) = true := by simp only [beq_iff_eq]; omega
        have f2 : decide ((-1085 : Int) < e) = true := decide_eq_true a2
        have HA := Lib.hid (And.intro a1 a2)
        clear a1 a2
        go_wp2
        go_meet
        exact ⟨by rw [HT0.out.trans (decide_eq_true HA.out)], rfl⟩
      · have f1 : (((m : Nat) : Int) == 9223372036854775808) = true := by simp only [beq_iff_eq]; omega
        have f2 : decide ((-1085 : Int) < e) = false := decide_eq_false a2
        have HA := Lib.hid a2
        clear a1 a2
        go_wp2
        go_meet
        exact ⟨by rw [HT0.out.trans (decide_eq_false fun h => by have := HA.out; omega)], rfl⟩
    · have f1 : (((m : Nat) : Int) == 9223372036854775808) = false := by simp only [beq_eq_false_iff_ne, ne_eq]; omega
      have HA := Lib.hid a1
      clear a1
      go_wp2
      go_meet
      exact ⟨by rw [HT0.out.trans (decide_eq_false fun h => HA.out h.1)], rfl⟩
  case rest =>
  obtain ⟨rfl, rfl⟩ := hcut
  go_upto_if 28 with fail
  go_cut [5, 8, 9, 10, 11] from 29 to 96 (fun v5 v8 v9 v10 v11 wx => v5 = .int .i64 P ∧ v8 = .int .u64 mn ∧ v9 = .int .u64 mx ∧ v10 = .int .i64 od ∧ w = wx)
  case first =>
    have ht := HT0.out
    have hh := HH.out
    unfold sfH at hh
    cases T0 with
    | true =>
      have h1 := of_decide_eq_true ht.symm
      rw [if_pos h1] at hh
      simp only [Prod.mk.injEq] at hh
      obtain ⟨rfl, rfl, rfl, rfl⟩ := hh
      obtain ⟨M2, hM2⟩ : ∃ x, x = m / 2048 := ⟨_, rfl⟩
      obtain ⟨B2, hB2⟩ : ∃ x, x = M2 % 2 := ⟨_, rfl⟩
      have x1 : ((m : Nat) : Int) / 2048 = ((M2 : Nat) : Int) := by omega
      have x2 : bits .and .i64 ((M2 : Nat) : Int) 1 = ((B2 : Nat) : Int) := by rw [hB2]; exact and_one M2 (by omega)
      have hM3 : M2 < 9007199254740992 := by omega
      have hMB : m / 2048 % 2 = B2 := by rw [hB2, hM2]
      have HMB := Lib.hid (And.intro hMB (And.intro hM2 hB2))
      clear ht h1 hM2 hB2 hMB
      go_wp2_with (first | (go_at_call 156; refine (skewp _ (by omega) _).mono ?_; rintro e w' ⟨rfl, rfl⟩))
      go_meet
      exact ⟨rfl, rfl, rfl, by rw [HMB.out.1], rfl⟩
    | false =>
      have h1 := of_decide_eq_false ht.symm
      rw [if_neg h1] at hh
      by_cases h2 : -1085 ≤ e
      · rw [if_pos h2] at hh
        simp only [Prod.mk.injEq] at hh
        obtain ⟨rfl, rfl, rfl, rfl⟩ := hh
        have f1 : decide ((-1085 : Int) ≤ e) = true := decide_eq_true h2
        obtain ⟨M2, hM2⟩ : ∃ x, x = m / 2048 := ⟨_, rfl⟩
        obtain ⟨B2, hB2⟩ : ∃ x, x = M2 % 2 := ⟨_, rfl⟩
        have x1 : ((m : Nat) : Int) / 2048 = ((M2 : Nat) : Int) := by omega
        have x2 : bits .and .i64 ((M2 : Nat) : Int) 1 = ((B2 : Nat) : Int) := by rw [hB2]; exact and_one M2 (by omega)
        have hM3 : M2 < 9007199254740992 := by omega
        have hMB : m / 2048 % 2 = B2 := by rw [hB2, hM2]
        have HMB := Lib.hid (And.intro hMB (And.intro hM2 hB2))
        clear ht h1 hM2 hB2 hMB
        go_wp2_with (first | (go_at_call 119; refine (log10p _ (by omega) _).mono ?_; rintro e w' ⟨rfl, rfl⟩))
        go_meet
        exact ⟨rfl, rfl, rfl, by rw [HMB.out.1], rfl⟩
      · rw [if_neg h2] at hh
        simp only [Prod.mk.injEq] at hh
        obtain ⟨rfl, rfl, rfl, rfl⟩ := hh
        have f1 : decide ((-1085 : Int) ≤ e) = false := decide_eq_false h2
        obtain ⟨Z, hZ⟩ : ∃ x, x = (-1074 - e).toNat := ⟨_, rfl⟩
        obtain ⟨Z1, hZ1⟩ : ∃ x, x = (-1074 - e - 1).toNat := ⟨_, rfl⟩
        have z1 : 11 + (-1085 - e) = ((Z : Nat) : Int) := by omega
        have z2 : e + ((Z : Nat) : Int) = -1074 := by omega
        have z3 : ((Z : Nat) : Int) - 1 = ((Z1 : Nat) : Int) := by omega
        have z4 : Z1 < 63 := by omega
        have z5 : Z < 64 := by omega
        obtain ⟨M2, hM2⟩ : ∃ x, x = m / 2 ^ Z := ⟨_, rfl⟩
        obtain ⟨B2, hB2⟩ : ∃ x, x = M2 % 2 := ⟨_, rfl⟩
        have HZ := Lib.hid (And.intro hZ (And.intro hZ1 (And.intro hM2 (And.intro hB2 h2))))
        clear ht h1 hZ hZ1 hM2 hB2 h2
        go_wp2_with (first | (go_at_call 119; refine (log10p _ (by omega) _).mono ?_; rintro e w' ⟨rfl, rfl⟩))
        go_meet
        obtain ⟨hZ, hZ1, hM2, hB2, h2⟩ := HZ.out
        refine ⟨rfl, ?_, ?_, ?_, rfl⟩
        · rw [pow_u Z1 z4, hZ1]
        · rw [pow_u Z1 z4, hZ1]
        · rw [quo_low m Z hm (by omega), hZ]
  case rest =>
    obtain ⟨rfl, rfl, rfl, rfl, rfl⟩ := hcut
    go_wp2_with fail
    refine (HP'.out _).mono ?_; rintro e w' ⟨rfl, rfl⟩
    go_wp2_with fail
    refine (HPR'.out).mono ?_
    rintro e w1 ⟨hb1, hbl, rfl⟩
    obtain ⟨d0, d1, d2, df⟩ := cell3 hb1
    have HB1 := Lib.hid hb1
    have HBL := Lib.hid hbl
    clear hb1 hbl
    go_wp2_with fail
    refine (HU1'.out _ _ HB1.out).mono ?_
    rintro e w2 ⟨rfl, n, rfl⟩
    go_wp2_with (first | (go_at_call 160; refine (nudC _ _ _).mono ?_; rintro e w' ⟨rfl, rfl⟩) | (go_at_call 161; refine (ceilC _ _).mono ?_; rintro e w' ⟨rfl, rfl⟩))
    rw [← HD.out.1]
    refine (HU2'.out _ (w1.drewN n) HB1.out).mono ?_
    rintro e w2 ⟨rfl, n2, rfl⟩
    go_upto_region 31 with (first | (go_at_call 160; refine (nudC _ _ _).mono ?_; rintro e w' ⟨rfl, rfl⟩) | (go_at_call 162; refine (floorC _ (nudF_in _ _) _).mono ?_; rintro e w' ⟨rfl, rfl⟩))
    rw [← HD.out.2]
    cases c1 with
    | true =>
      obtain ⟨r1, r2⟩ := HRR.out
      simp only [if_true] at r1 r2
      subst r1 r2
      have hc := HC.out.1
      go_wp2
      go_ret2
      exact ⟨rfl, below_nn (pre_below HBL.out) _⟩
    | false =>
      cases c2 with
      | true =>
        obtain ⟨r1, r2⟩ := HRR.out
        simp only [if_true, if_false, Bool.false_eq_true] at r1 r2
        subst r1 r2
        have hc := HC.out.1
        have hc' := HC.out.2
        go_wp2_with fail
        refine (HU3'.out _ (w1.drewN (n + n2)) HB1.out).mono ?_
        rintro e w2 ⟨rfl, n3, rfl⟩
        go_wp2_with (first | (go_at_call 163; refine (HR'.out _).mono ?_; rintro e w' ⟨rfl, rfl⟩))
        go_ret2
        exact ⟨rfl, below_nn (pre_below HBL.out) _⟩
      | false =>
        obtain ⟨r1, r2⟩ := HRR.out
        simp only [if_true, if_false, Bool.false_eq_true] at r1 r2
        subst r1 r2
        have hc := HC.out.1
        have hc' := HC.out.2
        go_wp2_with fail
        go_ret2
        exact ⟨rfl, below_nn (pre_below HBL.out) _⟩

theorem p10_nat {w : World} (hT : Tabs w) (i : Nat) (hi : i < 696) : ∃ hi lo : Nat, hi < 18446744073709551616 ∧ lo < 18446744073709551616 ∧ p10h i = (hi : Int) ∧ p10l i = (lo : Int) := by
  obtain ⟨⟨h1, h2⟩, h3, h4⟩ := hT.nat i hi
  exact ⟨(p10h i).toNat, (p10l i).toNat, by omega, by omega, by omega, by omega⟩

/-- shortFloat: one answer. -/
theorem shortF (m : Nat) (hm : m < 18446744073709551616) (e : Int) (he : -1137 ≤ e ∧ e ≤ 971) : ∃ (d : Nat) (p : Int), d < 18446744073709551616 ∧ (-340 ≤ p ∧ p ≤ 340) ∧ ∀ w, Tabs w → Calls Tryz.prog 145 #[.int .u64 (m : Int), .int .i64 e] w (RetDP d p w) := by
  by_cases hex : ∃ w : World, Tabs w
  · obtain ⟨W, hW⟩ := hex
    obtain ⟨a1, a2, a3, a4⟩ := sfH_in m e
    obtain ⟨b1, b2, b3, b4⟩ := sfH_place m e he
    obtain ⟨⟨P, mn, mx, od⟩, hq⟩ : ∃ q, q = sfH m e := ⟨_, rfl⟩
    rw [← hq] at a1 a2 a3 a4 b1 b2 b3 b4
    simp only at a1 a2 a3 a4 b1 b2 b3 b4
    obtain ⟨i, hi⟩ : ∃ i : Nat, P = (i : Int) - 348 := ⟨(P + 348).toNat, by omega⟩
    obtain ⟨h', l', hh, hl, hc1, hc2⟩ := p10_nat hW i (by omega)
    obtain ⟨lp, hlp⟩ : ∃ lp : Int, lp = P * 108853 / 32768 := ⟨_, rfl⟩
    obtain ⟨S, hS⟩ : ∃ S : Int, S = -(e + lp + 3) := ⟨_, rfl⟩
    rw [← hlp, ← hS] at b3 b4
    have HP : ∀ w, Calls Tryz.prog 158 #[.int .i64 P] w fun e w' => e = .returned (.int .i64 lp) ∧ w = w' := fun w => by
      rw [hlp]
      exact log2p P (by omega) w
    have hlpb : -1200 ≤ lp ∧ lp ≤ 1200 := by omega
    obtain ⟨u1, hu1, HU1⟩ := uscaleI mn a1 h' l' S hh hl ⟨b3, b4⟩
    obtain ⟨u2, hu2, HU2⟩ := uscaleI mx a2 h' l' S hh hl ⟨b3, b4⟩
    obtain ⟨u3, hu3, HU3⟩ := uscaleI (m : Int) (by unfold InU; omega) h' l' S hh hl ⟨b3, b4⟩
    obtain ⟨r, hr, HR⟩ := roundU u3 hu3
    have HPR : ∀ w, Tabs w → Calls Tryz.prog 157 #[.pointer (some ⟨w.heap.size, 0, none⟩), .int .i64 e, .int .i64 P, .int .i64 lp] (w.alloc (.cells #[.int .u64 0, .int .u64 0, .int .i64 0] 219)) (PrePost w.heap.size h' l' S (w.alloc (.cells #[.int .u64 0, .int .u64 0, .int .i64 0] 219))) := fun w hT => by
      have ht2 := hT.bel (below_one' w (.cells #[.int .u64 0, .int .u64 0, .int .i64 0] 219)) hT.big
      obtain ⟨k1, k2⟩ := ht2.p10 i (by omega)
      rw [hc1] at k1
      rw [hc2] at k2
      exact prescale w.heap.size _ _ _ e P lp i h' l' S _ (by omega) (by omega) hi (by omega) (heap_alloc_new _ _) k1 k2 (by have := hT.big; omega) hS
    obtain ⟨dmin, hdmin⟩ : ∃ x, x = ceilF (nudF u1 od) := ⟨_, rfl⟩
    obtain ⟨dmax, hdmax⟩ : ∃ x, x = floorF (nudF u2 (-od)) := ⟨_, rfl⟩
    have hd1 : InU dmin := by rw [hdmin]; exact ceilF_in _
    have hd2 : InU dmax := by rw [hdmax]; exact floorF_in _ (nudF_in _ _)
    obtain ⟨dR, hdR⟩ : ∃ x : Int, x = if decide (dmin ≤ dmax / 10 * 10) then dmax / 10 else if decide (dmin < dmax) then r else dmin := ⟨_, rfl⟩
    obtain ⟨pR, hpR⟩ : ∃ x : Int, x = if decide (dmin ≤ dmax / 10 * 10) then -(P - 1) else -P := ⟨_, rfl⟩
    have hdb : InU dR := by
      rw [hdR]
      split
      · unfold InU at hd2 ⊢; omega
      · split
        · exact hr
        · exact hd1
    have hpb : -340 ≤ pR ∧ pR ≤ 340 := by
      rw [hpR]
      split <;> omega
    unfold InU at hdb
    refine ⟨dR.toNat, pR, by omega, hpb, fun w hT => ?_⟩
    rw [show ((dR.toNat : Nat) : Int) = dR by omega]
    exact sf_walk m hm e he P mn mx od hq.symm ⟨b1, b2⟩ ⟨a3, a4⟩ lp S h' l' hlpb HP w (HPR w hT) u1 u2 u3 hu1 hu2 hu3 HU1 HU2 HU3 dmin dmax hdmin hdmax hd1 hd2 r HR _ _ rfl rfl dR pR hdR hpR
  · exact ⟨0, 0, by decide, by decide, fun w hT => absurd ⟨w, hT⟩ hex⟩

end Go.Proofs.YtpkfdbhpmhahaaaGreatDoor
