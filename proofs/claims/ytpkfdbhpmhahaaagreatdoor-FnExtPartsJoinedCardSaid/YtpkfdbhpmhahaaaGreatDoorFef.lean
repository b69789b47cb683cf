/- Floats as decimals: ftoa64. -/
import Derived.Test.YtpkfdbhpmhahaaaGreatDoorFee
import Derived.Deep.DeepCutAuto
namespace Go.Proofs.YtpkfdbhpmhahaaaGreatDoor
open Go Go.RowKit Go.Lib Go.Proofs
set_option linter.unusedSimpArgs false
set_option linter.unusedVariables false

theorem f64bits (b : Nat) (w : World) : (callFunc 135 #[.float .f64 b]).run Tryz.prog w = .ok (.value (.int .u64 (b : Int))) w := by
  have h := @run_callFunc_extern Tryz.prog 135 _ Extern.MathFloatBits.float64bits Tryz.func135 (by kernel_rfl) (by kernel_rfl) (by kernel_rfl) (by kernel_rfl)
  rw [h]
  rfl
theorem or52 (x : Nat) (h : x < 4503599627370496) : bits .or .u64 (x : Int) 4503599627370496 = ((x + 4503599627370496 : Nat) : Int) := by
  have h1 := u64_or_nat x 4503599627370496 (by omega) (by omega)
  have h2 : x ||| 4503599627370496 = x + 4503599627370496 := by
    have h3 := Nat.two_pow_add_eq_or_of_lt (i := 52) (b := x) (by omega) 1
    rw [Nat.or_comm] at h3
    simp only [Nat.mul_one] at h3
    rw [← h3]
    omega
  rw [h2] at h1
  exact h1

theorem and_2047 (i : Nat) (hi : i < 9223372036854775808) : bits BinOp.and IntKind.i64 (i : Int) 2047 = ((i % 2048 : Nat) : Int) := by
  have h := bits_mask .i64 63 (by decide) (fun n h0 h1 => by rw [two63] at h1; rw [IntKind.wrap_i64]; omega) 11 (by decide) (i : Int) (by omega) (by rw [two63]; omega)
  have e : ((2 : Int) ^ 11 - 1) = 2047 := by decide
  rw [e] at h
  rw [h]
  have e2 : (2 : Int) ^ 11 = 2048 := by decide
  rw [e2]
  omega
theorem and_m52 (x : Nat) (hx : x < 18446744073709551616) : bits .and .u64 (x : Int) 4503599627370495 = ((x % 4503599627370496 : Nat) : Int) := by
  have h := u64_and_nat x 4503599627370495 hx (by decide)
  have e : (4503599627370495 : Nat) = 2 ^ 52 - 1 := by decide
  rw [e, Nat.and_two_pow_sub_one_eq_mod] at h
  exact h

theorem OB.re {B gb gb' : Nat} {ob ob' : Obj} {l : List UInt8} {w0 w : World} {v : Value} (h : OB B gb ob l w0 v w) (hk : w.heap[gb']? = some ob') (hn : v.ownBlock ≠ some gb') : OB B gb' ob' l w0 v w := ⟨h.row, h.below, h.size, hk, hn⟩
theorem OB.grown {B gb gb' : Nat} {ob ob' : Obj} {l : List UInt8} {w0 w w' : World} {v : Value} (h : OB B gb ob l w0 v w) (hg : w.grownBy w' (some gb')) (hB : B ≤ gb') (hn : v.ownBlock ≠ some gb') (hk : w'.heap[gb']? = some ob') : OB B gb' ob' l w0 v w' :=
  ⟨ownsRow_of h.row fun k hk2 => hg.block k (h.row.lt k hk2).2 (fun e => hn (by rw [hk2, e])), below_grown h.below hg (fun k e => by cases e; exact hB) h.size, Nat.le_trans h.size hg.size, hk, hn⟩

/-- What comes out of it: the bits' parts, digits d at place p. -/
def ftoaT (neg : Bool) (E Mn M2 d : Nat) (p : Int) : List UInt8 :=
  if E = 2047 then (if Mn ≠ 0 then [78, 97, 78] else if neg then [45, 73, 110, 102] else [43, 73, 110, 102])
  else if M2 = 0 then sgn neg ++ [48]
  else if ((digL d).length : Int) + p - 1 < -4 ∨ 6 ≤ ((digL d).length : Int) + p - 1 then sgn neg ++ efgE (trimL (digL d)) ((digL d).length + p)
  else sgn neg ++ efgF (trimL (digL d)) ((digL d).length + p)

def FtoaPost (B : Nat) (T : List UInt8) (w0 : World) (e : Ending) (w' : World) : Prop := ∃ v', e = .returned v' ∧ w'.ownsRow B 5 1 v' T.length (byteCells T) ∧ Below B w0 w'

set_option maxRecDepth 100000 in
set_option maxHeartbeats 8000000 in
theorem ftoaW (b : Nat) (hb : b < 18446744073709551616) (NEG : Bool) (E Mn M2 s m d : Nat) (EX p : Int) (hneg : NEG = ((b / 9223372036854775808 : Nat) != 0)) (hE : E = b / 4503599627370496 % 2048) (hMn : Mn = b % 4503599627370496) (hM2 : M2 = if E = 0 then Mn else Mn + 4503599627370496) (hEX : EX = if E = 0 then -1022 else (E : Int) - 1023)
    (hs : s = 64 - Lib.bitLen M2) (hm : IntKind.u64.wrap ((M2 : Int) * 2 ^ s) = (m : Int)) (hd : d < 18446744073709551616) (hp : -340 ≤ p ∧ p ≤ 340)
    (HSF : ¬ M2 = 0 → ∀ w, Tabs w → Calls Tryz.prog 145 #[.int .u64 (m : Int), .int .i64 (EX - s - 52)] w (RetDP d p w))
    (B g0 cp0 : Nat) (ob0 : Obj) (w0 w : World) (hT : Tabs w) (hO : OB B 2 ob0 [] w0 (.slice (some ⟨g0, 0, none⟩) 0 cp0) w) (hB : 13 ≤ B) :
    Calls Tryz.prog 118 #[.slice (some ⟨g0, 0, none⟩) 0 cp0, .float .f64 b, .int .u8 71, .int .i64 (-1)] w (FtoaPost B (ftoaT NEG E Mn M2 d p) w0) := by
  obtain ⟨TX, hTX⟩ : ∃ x, x = ftoaT NEG E Mn M2 d p := ⟨_, rfl⟩
  rw [← hTX]
  obtain ⟨S63, hS63⟩ : ∃ x, x = b / 9223372036854775808 := ⟨_, rfl⟩
  obtain ⟨X52, hX52⟩ : ∃ x, x = b / 4503599627370496 := ⟨_, rfl⟩
  have y1 : (b : Int) / 9223372036854775808 = (S63 : Int) := by omega
  have y2 : (b : Int) / 4503599627370496 = (X52 : Int) := by omega
  have y3 : IntKind.i64.wrap (X52 : Int) = (X52 : Int) := by rw [IntKind.wrap_i64]; omega
  have y4 : bits .and .i64 (X52 : Int) 2047 = (E : Int) := by
    rw [hE, ← hX52]
    exact and_2047 X52 (by omega)
  have y5 : bits .and .u64 (b : Int) 4503599627370495 = (Mn : Int) := by
    rw [hMn]
    exact and_m52 b hb
  have y6 : ((S63 : Int) != 0) = NEG := by
    rw [hneg, ← hS63]
    rw [Bool.eq_iff_iff]
    simp
  have hfb := f64bits b
  have bX : X52 < 4096 := by omega
  have bE : E < 2048 := by omega
  have bM : Mn < 4503599627370496 := by omega
  have HTX := Lib.hid hTX
  have HO := Lib.hid (hO.bel (below_drew (Below.refl _ _)))
  have HT := Lib.hid hT
  have HSF' := Lib.hid HSF
  have HM := Lib.hid (And.intro hM2 (And.intro hEX (And.intro hs hm)))
  clear hTX hneg hE hMn hM2 hEX hs hS63 hX52 hO hT HSF hm
  go_enter Tryz.func118, Tryz.ntmps118
  go_upto_region 14 with fail
  refine wp_region_noPanic ?_
  refine wp_region_held_drew (S := fun _ => True) (by kernel_rfl) (trivial) (fun hHeld => ?_)
  refine takeH (i := 0) (some 50) ?va1 rfl rfl (by kernel_rfl) (by kernel_rfl) (by kernel_rfl) (fun _ _ _ h => h) (by rfl) ?ya2 (by assumption) ?ra3
  case ya2 => intro W hSw; go_simp; all_goals with_reducible rfl
  try simp only [Act.put, List.setIfInBounds_toArray, List.set_cons_zero, List.set_cons_succ]
  refine takeH (i := 1) (some 51) ?va4 rfl rfl (by kernel_rfl) (by kernel_rfl) (by kernel_rfl) (fun _ _ _ h => h) (by rfl) ?ya5 (by assumption) ?ra6
  case ya5 => intro W hSw; go_simp; all_goals with_reducible rfl
  try simp only [Act.put, List.setIfInBounds_toArray, List.set_cons_zero, List.set_cons_succ]
  refine takeH (i := 2) (some 52) (.int .u64 (X52 : Int)) rfl rfl (by kernel_rfl) (by kernel_rfl) (by kernel_rfl) (fun _ _ _ h => h) (by rfl) (fun W hSw => by go_simp) (by assumption) ?_
  try simp only [Act.put, List.setIfInBounds_toArray, List.set_cons_zero, List.set_cons_succ]
  refine takeH (i := 3) (some 53) (.int .i64 (X52 : Int)) rfl rfl (by kernel_rfl) (by kernel_rfl) (by kernel_rfl) (fun _ _ _ h => h) (by rfl) (fun W hSw => by go_simp) (by assumption) ?_
  try simp only [Act.put, List.setIfInBounds_toArray, List.set_cons_zero, List.set_cons_succ]
  refine takeH (i := 4) (some 54) ?va7 rfl rfl (by kernel_rfl) (by kernel_rfl) (by kernel_rfl) (fun _ _ _ h => h) (by rfl) ?ya8 (by assumption) ?ra9
  case ya8 => intro W hSw; go_simp; all_goals with_reducible rfl
  try simp only [Act.put, List.setIfInBounds_toArray, List.set_cons_zero, List.set_cons_succ]
  refine takeH (i := 5) (some 55) (.int .i64 2048) rfl rfl (by kernel_rfl) (by kernel_rfl) (by kernel_rfl) (fun _ _ _ h => h) (by rfl) (fun W hSw => by go_simp; rfl) (by assumption) ?_
  try simp only [Act.put, List.setIfInBounds_toArray, List.set_cons_zero, List.set_cons_succ]
  refine takeH (i := 6) (some 56) (.int .i64 2047) rfl rfl (by kernel_rfl) (by kernel_rfl) (by kernel_rfl) (fun _ _ _ h => h) (by rfl) (fun W hSw => by go_simp; rfl) (by assumption) ?_
  try simp only [Act.put, List.setIfInBounds_toArray, List.set_cons_zero, List.set_cons_succ]
  refine takeH (i := 7) (some 57) (.int .i64 (E : Int)) rfl rfl (by kernel_rfl) (by kernel_rfl) (by kernel_rfl) (fun _ _ _ h => h) (by rfl) (fun W hSw => by go_simp) (by assumption) ?_
  try simp only [Act.put, List.setIfInBounds_toArray, List.set_cons_zero, List.set_cons_succ]
  refine takeH (i := 8) (some 14) ?va10 rfl rfl (by kernel_rfl) (by kernel_rfl) (by kernel_rfl) (fun _ _ _ h => h) (by rfl) ?ya11 (by assumption) ?ra12
  case ya11 => intro W hSw; go_simp; all_goals with_reducible rfl
  try simp only [Act.put, List.setIfInBounds_toArray, List.set_cons_zero, List.set_cons_succ]
  refine wpAnyH_done (by kernel_rfl) ?_ _
  refine NoPanic.normal ?_
  by_cases hE47 : E = 2047
  · subst hE47
    by_cases hM0 : Mn = 0
    · subst hM0
      cases NEG with
      | true =>
        have hx : TX = [45, 73, 110, 102] := by rw [HTX.out]; rfl
        subst hx
        go_wp2_with (first | ((with_reducible refine wpList_at (some 74) ?_); refine wpList_ob_string HO.out rfl _ _ rfl rfl ⟨#[45, 73, 110, 102]⟩ rfl (by decide) (by decide) ?_; intro v1 w1 h1))
        go_ret
        exact ⟨_, rfl, h1.out⟩
      | false =>
        have hx : TX = [43, 73, 110, 102] := by rw [HTX.out]; rfl
        subst hx
        go_wp2_with (first | ((with_reducible refine wpList_at (some 76) ?_); refine wpList_ob_string HO.out rfl _ _ rfl rfl ⟨#[43, 73, 110, 102]⟩ rfl (by decide) (by decide) ?_; intro v1 w1 h1))
        go_ret
        exact ⟨_, rfl, h1.out⟩
    · have hx : TX = [78, 97, 78] := by rw [HTX.out]; unfold ftoaT; rw [if_pos rfl, if_pos hM0]
      subst hx
      have f1 : ((Mn : Int) != 0) = true := by simp; omega
      clear hM0
      go_wp2_with (first | ((with_reducible refine wpList_at (some 71) ?_); refine wpList_ob_string HO.out rfl _ _ rfl rfl ⟨#[78, 97, 78]⟩ rfl (by decide) (by decide) ?_; intro v1 w1 h1))
      go_ret
      exact ⟨_, rfl, h1.out⟩
  have f1 : ((E : Int) == 2047) = false := by simp only [beq_eq_false_iff_ne, ne_eq]; omega
  have HE47 := Lib.hid hE47
  clear hE47
  go_upto_if 78 with fail
  go_cut [14, 15] from 78 to 84 (fun v14 v15 wx => v14 = .int .i64 (EX + 1023) ∧ v15 = .int .u64 (M2 : Int) ∧ w.drew = wx)
  case first =>
    have h1 := HM.out.1
    have h2 := HM.out.2.1
    by_cases h0 : E = 0
    · rw [if_pos h0] at h1 h2
      subst h0 h1 h2
      go_wp2
      go_meet
      exact ⟨rfl, rfl, rfl⟩
    · rw [if_neg h0] at h1 h2
      subst h1 h2
      have f2 : ((E : Int) == 0) = false := by simp only [beq_eq_false_iff_ne, ne_eq]; omega
      have f3 := or52 Mn bM
      have HM0 := Lib.hid h0
      clear h0
      go_wp2
      go_meet
      exact ⟨by congr 1; omega, rfl, rfl⟩
  case rest =>
  obtain ⟨rfl, rfl, rfl⟩ := hcut
  have hEXb : -1022 ≤ EX ∧ EX ≤ 1024 := by have := HM.out.2.1; split at this <;> omega
  have hM2b : M2 < 9007199254740992 := by have := HM.out.1; split at this <;> omega
  go_upto_if 112 with fail
  by_cases hz : M2 = 0
  · have hx : TX = sgn NEG ++ [48] := by rw [HTX.out]; unfold ftoaT; rw [if_neg HE47.out, if_pos hz]
    subst hz
    go_wp2_with (first | (go_at_call 138; refine (fmtZ B 2 ob0 [] (by decide) NEG g0 0 cp0 w0 _ HO.out).mono ?_; rintro e w1 ⟨g1, ln1, cp1, rfl, ho1⟩))
    go_ret
    have h2 := ho1.row
    rw [List.nil_append, ← hx] at h2
    exact ⟨_, rfl, h2, ho1.below⟩
  have f2 : ((M2 : Int) == 0) = false := by simp only [beq_eq_false_iff_ne, ne_eq]; omega
  have HZ := Lib.hid hz
  clear hz
  obtain ⟨BL, hBL⟩ : ∃ x, x = Lib.bitLen M2 := ⟨_, rfl⟩
  have hBL64 : BL ≤ 53 := by rw [hBL]; exact bitLen_le M2 53 (by decide) (by simpa using hM2b)
  have HL : Hid (∀ w, Calls Tryz.prog 120 #[.int .u64 (M2 : Int)] w fun e w' => e = .returned (.int .i64 (BL : Int)) ∧ w' = w) := Lib.hid fun w => by
    rw [hBL]
    have := Tryz.bits_Len64 (M2 : Int) w (by omega) (by omega)
    simpa using this
  have z1 : 64 - (BL : Int) = (s : Int) := by have := HM.out.2.2.1; omega
  have z2 := HM.out.2.2.2
  have hs64 : s ≤ 64 := by have := HM.out.2.2.1; omega
  clear hBL
  go_upto_region 33 with fail
  rw [show EX + 1023 + -1023 = EX by omega]
  go_upto_region 34 with fail
  have hbA : Below w.heap.size w (w.alloc (.cells #[.int .u8 0, .int .u8 0, .int .u8 0, .int .u8 0, .int .u8 0, .int .u8 0, .int .u8 0, .int .u8 0, .int .u8 0, .int .u8 0, .int .u8 0, .int .u8 0, .int .u8 0, .int .u8 0, .int .u8 0, .int .u8 0, .int .u8 0, .int .u8 0, .int .u8 0, .int .u8 0, .int .u8 0, .int .u8 0, .int .u8 0, .int .u8 0, .int .u8 0, .int .u8 0, .int .u8 0, .int .u8 0, .int .u8 0, .int .u8 0, .int .u8 0, .int .u8 0] 198)).drew := below_drew ((Below.refl w.heap.size w).alloc (Nat.le_refl _) _)
  have hnA : (w.alloc (.cells #[.int .u8 0, .int .u8 0, .int .u8 0, .int .u8 0, .int .u8 0, .int .u8 0, .int .u8 0, .int .u8 0, .int .u8 0, .int .u8 0, .int .u8 0, .int .u8 0, .int .u8 0, .int .u8 0, .int .u8 0, .int .u8 0, .int .u8 0, .int .u8 0, .int .u8 0, .int .u8 0, .int .u8 0, .int .u8 0, .int .u8 0, .int .u8 0, .int .u8 0, .int .u8 0, .int .u8 0, .int .u8 0, .int .u8 0, .int .u8 0, .int .u8 0, .int .u8 0] 198)).drew.heap[w.heap.size]? = some (.cells #[.int .u8 0, .int .u8 0, .int .u8 0, .int .u8 0, .int .u8 0, .int .u8 0, .int .u8 0, .int .u8 0, .int .u8 0, .int .u8 0, .int .u8 0, .int .u8 0, .int .u8 0, .int .u8 0, .int .u8 0, .int .u8 0, .int .u8 0, .int .u8 0, .int .u8 0, .int .u8 0, .int .u8 0, .int .u8 0, .int .u8 0, .int .u8 0, .int .u8 0, .int .u8 0, .int .u8 0, .int .u8 0, .int .u8 0, .int .u8 0, .int .u8 0, .int .u8 0] 198 (0, 0)) := heap_alloc_new w (.cells #[.int .u8 0, .int .u8 0, .int .u8 0, .int .u8 0, .int .u8 0, .int .u8 0, .int .u8 0, .int .u8 0, .int .u8 0, .int .u8 0, .int .u8 0, .int .u8 0, .int .u8 0, .int .u8 0, .int .u8 0, .int .u8 0, .int .u8 0, .int .u8 0, .int .u8 0, .int .u8 0, .int .u8 0, .int .u8 0, .int .u8 0, .int .u8 0, .int .u8 0, .int .u8 0, .int .u8 0, .int .u8 0, .int .u8 0, .int .u8 0, .int .u8 0, .int .u8 0] 198)
  have hszA : w.heap.size < (w.alloc (.cells #[.int .u8 0, .int .u8 0, .int .u8 0, .int .u8 0, .int .u8 0, .int .u8 0, .int .u8 0, .int .u8 0, .int .u8 0, .int .u8 0, .int .u8 0, .int .u8 0, .int .u8 0, .int .u8 0, .int .u8 0, .int .u8 0, .int .u8 0, .int .u8 0, .int .u8 0, .int .u8 0, .int .u8 0, .int .u8 0, .int .u8 0, .int .u8 0, .int .u8 0, .int .u8 0, .int .u8 0, .int .u8 0, .int .u8 0, .int .u8 0, .int .u8 0, .int .u8 0] 198)).drew.heap.size := by show w.heap.size < (w.alloc _).heap.size; simp
  have hoA := HO.out.bel (⟨hbA.os, hbA.tape, hbA.output, hbA.size, hbA.block⟩ : Below w.drew.heap.size w.drew (w.alloc (.cells #[.int .u8 0, .int .u8 0, .int .u8 0, .int .u8 0, .int .u8 0, .int .u8 0, .int .u8 0, .int .u8 0, .int .u8 0, .int .u8 0, .int .u8 0, .int .u8 0, .int .u8 0, .int .u8 0, .int .u8 0, .int .u8 0, .int .u8 0, .int .u8 0, .int .u8 0, .int .u8 0, .int .u8 0, .int .u8 0, .int .u8 0, .int .u8 0, .int .u8 0, .int .u8 0, .int .u8 0, .int .u8 0, .int .u8 0, .int .u8 0, .int .u8 0, .int .u8 0] 198)).drew)
  generalize (w.alloc (.cells #[.int .u8 0, .int .u8 0, .int .u8 0, .int .u8 0, .int .u8 0, .int .u8 0, .int .u8 0, .int .u8 0, .int .u8 0, .int .u8 0, .int .u8 0, .int .u8 0, .int .u8 0, .int .u8 0, .int .u8 0, .int .u8 0, .int .u8 0, .int .u8 0, .int .u8 0, .int .u8 0, .int .u8 0, .int .u8 0, .int .u8 0, .int .u8 0, .int .u8 0, .int .u8 0, .int .u8 0, .int .u8 0, .int .u8 0, .int .u8 0, .int .u8 0, .int .u8 0] 198)).drew = wA at hbA hnA hszA hoA ⊢
  have hTA : Tabs wA := HT.out.bel hbA HT.out.big
  have HA := Lib.hid (And.intro hbA (And.intro hnA (And.intro hszA hTA)))
  have hgne : g0 ≠ w.heap.size := by
    have := (HO.out.row.lt g0 rfl).2
    have e : w.drew.heap.size = w.heap.size := rfl
    omega
  have HGN := Lib.hid hgne
  have hBw : B ≤ w.heap.size := HO.out.size
  clear HO
  have HO := Lib.hid hoA
  clear hbA hnA hszA hoA hTA hgne
  go_upto_region 38 with (first | (go_at_call 120; refine (HL.out _).mono ?_; rintro e w' ⟨rfl, rfl⟩) | (go_at_call 145; go_loud (refine (HSF'.out HZ.out _ HA.out.2.2.2).mono ?_; rintro e w2 ⟨rfl, hb2⟩)))
  have hoB := HO.out.bel hb2
  have hTB := HA.out.2.2.2.bel hb2 HA.out.2.2.2.big
  have hnB : w2.heap[w.heap.size]? = some (.cells #[.int .u8 0, .int .u8 0, .int .u8 0, .int .u8 0, .int .u8 0, .int .u8 0, .int .u8 0, .int .u8 0, .int .u8 0, .int .u8 0, .int .u8 0, .int .u8 0, .int .u8 0, .int .u8 0, .int .u8 0, .int .u8 0, .int .u8 0, .int .u8 0, .int .u8 0, .int .u8 0, .int .u8 0, .int .u8 0, .int .u8 0, .int .u8 0, .int .u8 0, .int .u8 0, .int .u8 0, .int .u8 0, .int .u8 0, .int .u8 0, .int .u8 0, .int .u8 0] 198 (0, 0)) := (hb2.block _ HA.out.2.2.1).trans HA.out.2.1
  clear HO
  have HO := Lib.hid hoB
  have HB2 := Lib.hid (And.intro hTB hnB)
  clear hoB hTB hnB hb2 HL z1 z2
  obtain ⟨ND, hND⟩ : ∃ x, x = (digL d).length := ⟨_, rfl⟩
  have hnum := numDig d hd w2.drew (HB2.out.1.bel (below_drew (Below.refl _ _)) HB2.out.1.big)
  have hset := setDig d hd p (by omega) w.heap.size #[.int .u8 0, .int .u8 0, .int .u8 0, .int .u8 0, .int .u8 0, .int .u8 0, .int .u8 0, .int .u8 0, .int .u8 0, .int .u8 0, .int .u8 0, .int .u8 0, .int .u8 0, .int .u8 0, .int .u8 0, .int .u8 0, .int .u8 0, .int .u8 0, .int .u8 0, .int .u8 0, .int .u8 0, .int .u8 0, .int .u8 0, .int .u8 0, .int .u8 0, .int .u8 0, .int .u8 0, .int .u8 0, .int .u8 0, .int .u8 0, .int .u8 0, .int .u8 0] w2.drew HB2.out.2 rfl (fun j hj => by
    rw [Array.getElem?_eq_getElem (by simpa using hj)]
    congr 1
    rcases j with _ | _ | _ | _ | _ | _ | _ | _ | _ | _ | _ | _ | _ | _ | _ | _ | _ | _ | _ | _ | _ | _ | _ | _ | _ | _ | _ | _ | _ | _ | _ | _ | j
    all_goals first | rfl | omega)
  rw [← digL_length] at hnum
  rw [← hND] at hnum hset
  have HNS := Lib.hid (And.intro hnum hset)
  have HNDL := Lib.hid hND
  clear hnum hset hND
  refine wp_region_noPanic ?_
  refine wp_region_held_drew (S := fun _ => True) (by kernel_rfl) (trivial) (fun hHeld => ?_)
  refine takeH (i := 0) (some 140) (.slice (some ⟨w.heap.size, 0, none⟩) 32 32) rfl rfl (by kernel_rfl) (by kernel_rfl) (by kernel_rfl) (fun _ _ _ h => h) (by rfl) (fun W hSw => by go_simp; try rfl) (by assumption) ?_
  try simp only [Act.put, List.setIfInBounds_toArray, List.set_cons_zero, List.set_cons_succ]
  refine takeH (i := 1) (some 141) ?vb13 rfl rfl (by kernel_rfl) (by kernel_rfl) (by kernel_rfl) (fun _ _ _ h => h) (by rfl) ?yb14 (by assumption) ?rb15
  case yb14 => intro W hSw; go_simp; all_goals with_reducible rfl
  try simp only [Act.put, List.setIfInBounds_toArray, List.set_cons_zero, List.set_cons_succ]
  refine takeH (i := 2) (some 142) ?vb16 rfl rfl (by kernel_rfl) (by kernel_rfl) (by kernel_rfl) (fun _ _ _ h => h) (by rfl) ?yb17 (by assumption) ?rb18
  case yb17 => intro W hSw; go_simp; all_goals with_reducible rfl
  try simp only [Act.put, List.setIfInBounds_toArray, List.set_cons_zero, List.set_cons_succ]
  refine takeH (i := 3) (some 143) ?vb19 rfl rfl (by kernel_rfl) (by kernel_rfl) (by kernel_rfl) (fun _ _ _ h => h) (by rfl) ?yb20 (by assumption) ?rb21
  case yb20 => intro W hSw; go_simp; all_goals with_reducible rfl
  try simp only [Act.put, List.setIfInBounds_toArray, List.set_cons_zero, List.set_cons_succ]
  refine wpAnyH_ready (rs := [4]) (by kernel_rfl) (by simp) ?_
  refine (AllReadyH.cons rfl (fun K hK => ?_) AllReadyH.nil)
  go_simp
  refine (HNS.out.1).mono ?_
  rintro e w' ⟨rfl, rfl⟩
  refine hK.out _ _ (trivial) (fun hHeld => ?_)
  clear hK K
  try simp only [Act.put, List.setIfInBounds_toArray, List.set_cons_zero, List.set_cons_succ]
  refine wpAnyH_ready (rs := [5]) (by kernel_rfl) (by simp) ?_
  refine (AllReadyH.cons rfl (fun K hK => ?_) AllReadyH.nil)
  go_simp
  refine (HNS.out.2).mono ?_
  rintro e w9 ⟨rfl, hbuf9, hgr9⟩
  have HB9 := Lib.hid (And.intro hbuf9 hgr9)
  clear hbuf9 hgr9
  refine hK.out _ _ (trivial) (fun hHeld => ?_)
  clear hK K
  try simp only [Act.put, List.setIfInBounds_toArray, List.set_cons_zero, List.set_cons_succ]
  refine takeH (i := 6) (some 139) ?vb22 rfl rfl (by kernel_rfl) (by kernel_rfl) (by kernel_rfl) (fun _ _ _ h => h) (by rfl) ?yb23 (by assumption) ?rb24
  case yb23 => intro W hSw; go_simp; all_goals with_reducible rfl
  try simp only [Act.put, List.setIfInBounds_toArray, List.set_cons_zero, List.set_cons_succ]
  refine takeH (i := 7) (some 146) ?vb25 rfl rfl (by kernel_rfl) (by kernel_rfl) (by kernel_rfl) (fun _ _ _ h => h) (by rfl) ?yb26 (by assumption) ?rb27
  case yb26 => intro W hSw; go_simp; all_goals with_reducible rfl
  try simp only [Act.put, List.setIfInBounds_toArray, List.set_cons_zero, List.set_cons_succ]
  refine takeH (i := 8) (some 147) ?vb28 rfl rfl (by kernel_rfl) (by kernel_rfl) (by kernel_rfl) (fun _ _ _ h => h) (by rfl) ?yb29 (by assumption) ?rb30
  case yb29 => intro W hSw; go_simp; all_goals with_reducible rfl
  try simp only [Act.put, List.setIfInBounds_toArray, List.set_cons_zero, List.set_cons_succ]
  refine takeH (i := 9) (some 22) ?vb31 rfl rfl (by kernel_rfl) (by kernel_rfl) (by kernel_rfl) (fun _ _ _ h => h) (by rfl) ?yb32 (by assumption) ?rb33
  case yb32 => intro W hSw; go_simp; all_goals with_reducible rfl
  try simp only [Act.put, List.setIfInBounds_toArray, List.set_cons_zero, List.set_cons_succ]
  refine takeH (i := 10) (some 23) ?vb34 rfl rfl (by kernel_rfl) (by kernel_rfl) (by kernel_rfl) (fun _ _ _ h => h) (by rfl) ?yb35 (by assumption) ?rb36
  case yb35 => intro W hSw; go_simp; all_goals with_reducible rfl
  try simp only [Act.put, List.setIfInBounds_toArray, List.set_cons_zero, List.set_cons_succ]
  refine wpAnyH_done (by kernel_rfl) ?_ _
  refine NoPanic.normal ?_
  have hND := HNDL.out
  obtain ⟨ob9, hk9, hbuf9⟩ := HB9.out.1
  have ho9 := (HO.out.bel (below_drew (Below.refl _ _))).grown HB9.out.2 hBw (fun e => HGN.out (by simpa [Value.ownBlock] using e)) hk9
  obtain ⟨N2, hN2⟩ : ∃ x, x = (trimL (digL d)).length := ⟨_, rfl⟩
  have hN2b : N2 ≤ 20 := by rw [hN2, trimL_length]; exact Nat.le_trans (trimN_le _ _) (digL_le d hd)
  have hNDb : ND ≤ 20 := by rw [hND]; exact digL_le d hd
  obtain ⟨DP, hDP⟩ : ∃ x : Int, x = ((digL d).length : Int) + p := ⟨_, rfl⟩
  have HDP := Lib.hid (And.intro hDP trivial)
  rw [← hN2, ← hDP]
  clear hDP
  have hDPb : -1000 ≤ DP ∧ DP ≤ 1000 := by have := HDP.out.1; have := digL_le d hd; omega
  have hTm : TX = if DP - 1 < -4 ∨ 6 ≤ DP - 1 then sgn NEG ++ efgE (trimL (digL d)) DP else sgn NEG ++ efgF (trimL (digL d)) DP := by
    rw [HTX.out]
    unfold ftoaT
    rw [if_neg HE47.out, if_neg HZ.out, ← HDP.out.1]
  have hcall : Calls Tryz.prog 138 #[.slice (some ⟨g0, 0, none⟩) 0 cp0, .bool NEG, .slice (some ⟨w.heap.size, 0, none⟩) 32 32, .int .i64 DP, .int .i64 (N2 : Int), .int .i64 (N2 : Int), .int .u8 71, .bool true] w9 (EfgPost B w.heap.size ob9 TX w0) := by
    by_cases hE : DP - 1 < -4 ∨ 6 ≤ DP - 1
    · rw [if_pos hE] at hTm
      have := fmtE B w.heap.size ob9 [] (by decide) (trimL (digL d)) N2 hN2 (by omega) DP hDPb hbuf9 hE NEG g0 0 cp0 w0 w9 ho9
      rw [List.nil_append, ← hTm] at this
      exact this
    · rw [if_neg hE] at hTm
      have := fmtF B w.heap.size ob9 [] (by decide) (trimL (digL d)) N2 hN2 (by omega) DP (by omega) hbuf9 NEG g0 0 cp0 w0 w9 ho9
      rw [List.nil_append, ← hTm] at this
      exact this
  have HCL := Lib.hid hcall
  clear HDP hcall hTm ho9 hbuf9 hk9 hN2 hND
  go_wp2_with (first | (go_at_call 138; refine (HCL.out).mono ?_; rintro e w1 ⟨g1, ln1, cp1, rfl, ho1⟩))
  go_ret
  exact ⟨_, rfl, ho1.row, ho1.below⟩

end Go.Proofs.YtpkfdbhpmhahaaaGreatDoor
