-- PRINTED BY print.sh 35421559b90ae4d0a3588c463048766b98c2df88dd9212a6774a882060cdf62d: not written by this session
import Derived.Test.YtdabllkphibfmaaGreatDoorPFnExtTokensx0
namespace Go.Proofs.YtdabllkphibfmaaGreatDoor.PFnExtTokens
open Go.RowKit Go.Proofs.YtdabllkphibfmaaGreatDoorW.PrintWords Go.Proofs.YtdabllkphibfmaaGreatDoorW.PrintLast Go.Proofs.YtdabllkphibfmaaGreatDoorW.PrintMore
attribute [local go_sem] max2_int min2_int max_two min_two max_three min_three max_four min_four   -- for this text's walks alone
set_option linter.unusedVariables false
set_option linter.unusedSimpArgs false

/-! ### impl_one: function 20 -/
def impl_one.f (a0 : Bool) : Option (Int) := if a0 = true then (some 1) else (some 0)
set_option maxHeartbeats 8000000 in
set_option maxRecDepth 100000 in
theorem impl_one.calls (a0 : Bool) (r : Int) (w : World) (h : impl_one.f a0 = some r) :
    Calls Tryz.prog 20 #[.bool a0] w fun e w' => e = .returned (.int .i64 r) ∧ Drawn0 w w' := by
  have H : (if a0 = true then (some 1) else (some 0)) = some r := h
  clear h
  by_cases c2 : a0 = true
  · subst c2
    have H1 : (some 1) = some r := by rw [if_pos rfl] at H; exact H
    clear H
    have H := H1
    clear H1
    obtain rfl := Option.some.inj H
    go_enter Tryz.func20, Tryz.ntmps20
    go_wp2
    go_ret
    exact ⟨by first | rfl | (simp; done) | (simp [*]; done), by repeat (first | exact Drawn0.refl _ | apply Drawn0.step)⟩
  · replace c2 := Bool.eq_false_iff.mpr c2
    subst c2
    have H1 : (some 0) = some r := by rw [if_neg (show ¬ (false = true) by decide)] at H; exact H
    clear H
    have H := H1
    clear H1
    obtain rfl := Option.some.inj H
    go_enter Tryz.func20, Tryz.ntmps20
    go_wp2
    go_ret
    exact ⟨by first | rfl | (simp; done) | (simp [*]; done), by repeat (first | exact Drawn0.refl _ | apply Drawn0.step)⟩

-- NOT PRINTED: function 9 (impl_ExtTokens)

/-! ### spec_extRune: function 36 -/
mutual
def spec_extRune.j2 : Nat → ByteArray → Int → Int → Int → Option (Int × Int)
  | 0, _, _, _, _ => none
  | k + 1, x0, x4, x5, x6 => if x5 = 0 then (spec_extRune.j3 k x0 x4 x5 x6 true) else (spec_extRune.j3 k x0 x4 x5 x6 (decide ((x0.size : Int) < x5)))
def spec_extRune.j3 : Nat → ByteArray → Int → Int → Int → Bool → Option (Int × Int)
  | 0, _, _, _, _, _ => none
  | k + 1, x0, x4, x5, x6, x50 => if x50 = true then (some (0, 0)) else (spec_extRune.l0 k x0 x4 x5 x6 1)
def spec_extRune.l0 : Nat → ByteArray → Int → Int → Int → Int → Option (Int × Int)
  | 0, _, _, _, _, _ => none
  | k + 1, x0, x4, x5, x6, x7 => if x7 < x5 then (if 0 ≤ x7 then (if x7 < (x0.size : Int) then (if ((bt x0 x7) / 64) = 2 then (spec_extRune.l0 k x0 (Go.bits .or .i64 (wrap64 (x4 * 64)) (wrap64 (Go.bits .and .u8 (bt x0 x7) 63))) x5 x6 (wrap64 (x7 + 1))) else (some (0, 0))) else (none)) else (none)) else (if x4 < x6 then (some (0, 0)) else (if x4 > 1114111 then (some (0, 0)) else (if x4 ≥ 55296 then (if x4 < 57344 then (some (0, 0)) else (some (x5, x4))) else (some (x5, x4)))))
def spec_extRune.j0 : Nat → ByteArray → Int → Int → Int → Bool → Option (Int × Int)
  | 0, _, _, _, _, _ => none
  | k + 1, x0, x4, x5, x6, x16 => if x16 = true then (spec_extRune.j2 k x0 (Go.bits .and .i64 x4 31) 2 128) else (if x4 ≥ 224 then (spec_extRune.j1 k x0 x4 x5 x6 (decide (x4 < 240))) else (spec_extRune.j1 k x0 x4 x5 x6 false))
def spec_extRune.j1 : Nat → ByteArray → Int → Int → Int → Bool → Option (Int × Int)
  | 0, _, _, _, _, _ => none
  | k + 1, x0, x4, x5, x6, x25 => if x25 = true then (spec_extRune.j2 k x0 (Go.bits .and .i64 x4 15) 3 2048) else (if x4 ≥ 240 then (if x4 < 245 then (spec_extRune.j2 k x0 (Go.bits .and .i64 x4 7) 4 65536) else (spec_extRune.j2 k x0 x4 x5 x6)) else (spec_extRune.j2 k x0 x4 x5 x6))
end
def spec_extRune.f (k : Nat) (a0 : ByteArray) : Option (Int × Int) := if a0.toList = ([] : List UInt8) then (some (0, 0)) else (if 0 < (a0.size : Int) then (if (wrap64 (bt a0 0)) < 128 then (some (1, wrap64 (bt a0 0))) else (if (wrap64 (bt a0 0)) ≥ 194 then (spec_extRune.j0 k a0 (wrap64 (bt a0 0)) 0 0 (decide ((wrap64 (bt a0 0)) < 224))) else (spec_extRune.j0 k a0 (wrap64 (bt a0 0)) 0 0 false))) else (none))
theorem spec_extRune.mono_l : ∀ k, (∀ y0 y1 y2 y3, LeO (spec_extRune.j2 k y0 y1 y2 y3) (spec_extRune.j2 (k + 1) y0 y1 y2 y3)) ∧ (∀ y0 y1 y2 y3 y4, LeO (spec_extRune.j3 k y0 y1 y2 y3 y4) (spec_extRune.j3 (k + 1) y0 y1 y2 y3 y4)) ∧ (∀ y0 y1 y2 y3 y4, LeO (spec_extRune.l0 k y0 y1 y2 y3 y4) (spec_extRune.l0 (k + 1) y0 y1 y2 y3 y4)) ∧ (∀ y0 y1 y2 y3 y4, LeO (spec_extRune.j0 k y0 y1 y2 y3 y4) (spec_extRune.j0 (k + 1) y0 y1 y2 y3 y4)) ∧ (∀ y0 y1 y2 y3 y4, LeO (spec_extRune.j1 k y0 y1 y2 y3 y4) (spec_extRune.j1 (k + 1) y0 y1 y2 y3 y4))
  | 0 => ⟨fun _ _ _ _ r h => by simp [spec_extRune.j2] at h, fun _ _ _ _ _ r h => by simp [spec_extRune.j3] at h, fun _ _ _ _ _ r h => by simp [spec_extRune.l0] at h, fun _ _ _ _ _ r h => by simp [spec_extRune.j0] at h, fun _ _ _ _ _ r h => by simp [spec_extRune.j1] at h⟩
  | k + 1 => by
    obtain ⟨ih0, ih1, ih2, ih3, ih4⟩ := spec_extRune.mono_l k
    refine ⟨?_, ?_, ?_, ?_, ?_⟩
    · intro y0 y1 y2 y3
      unfold spec_extRune.j2
      repeat' first
      | (with_reducible exact ih0 _ _ _ _)
      | (with_reducible exact ih1 _ _ _ _ _)
      | (with_reducible exact ih2 _ _ _ _ _)
      | (with_reducible exact ih3 _ _ _ _ _)
      | (with_reducible exact ih4 _ _ _ _ _)
      | (with_reducible exact LeO.refl _)
      | (with_reducible exact LeO.none _)
      | (with_reducible refine LeO.ite ?_ ?_)
      | (with_reducible refine LeO.bind ?_ (fun _ => ?_))
      | exact ih0 _ _ _ _
      | exact ih1 _ _ _ _ _
      | exact ih2 _ _ _ _ _
      | exact ih3 _ _ _ _ _
      | exact ih4 _ _ _ _ _
      | exact LeO.none _
      | refine LeO.ite ?_ ?_
      | refine LeO.bind ?_ (fun _ => ?_)
    · intro y0 y1 y2 y3 y4
      unfold spec_extRune.j3
      repeat' first
      | (with_reducible exact ih0 _ _ _ _)
      | (with_reducible exact ih1 _ _ _ _ _)
      | (with_reducible exact ih2 _ _ _ _ _)
      | (with_reducible exact ih3 _ _ _ _ _)
      | (with_reducible exact ih4 _ _ _ _ _)
      | (with_reducible exact LeO.refl _)
      | (with_reducible exact LeO.none _)
      | (with_reducible refine LeO.ite ?_ ?_)
      | (with_reducible refine LeO.bind ?_ (fun _ => ?_))
      | exact ih0 _ _ _ _
      | exact ih1 _ _ _ _ _
      | exact ih2 _ _ _ _ _
      | exact ih3 _ _ _ _ _
      | exact ih4 _ _ _ _ _
      | exact LeO.none _
      | refine LeO.ite ?_ ?_
      | refine LeO.bind ?_ (fun _ => ?_)
    · intro y0 y1 y2 y3 y4
      unfold spec_extRune.l0
      repeat' first
      | (with_reducible exact ih0 _ _ _ _)
      | (with_reducible exact ih1 _ _ _ _ _)
      | (with_reducible exact ih2 _ _ _ _ _)
      | (with_reducible exact ih3 _ _ _ _ _)
      | (with_reducible exact ih4 _ _ _ _ _)
      | (with_reducible exact LeO.refl _)
      | (with_reducible exact LeO.none _)
      | (with_reducible refine LeO.ite ?_ ?_)
      | (with_reducible refine LeO.bind ?_ (fun _ => ?_))
      | exact ih0 _ _ _ _
      | exact ih1 _ _ _ _ _
      | exact ih2 _ _ _ _ _
      | exact ih3 _ _ _ _ _
      | exact ih4 _ _ _ _ _
      | exact LeO.none _
      | refine LeO.ite ?_ ?_
      | refine LeO.bind ?_ (fun _ => ?_)
    · intro y0 y1 y2 y3 y4
      unfold spec_extRune.j0
      repeat' first
      | (with_reducible exact ih0 _ _ _ _)
      | (with_reducible exact ih1 _ _ _ _ _)
      | (with_reducible exact ih2 _ _ _ _ _)
      | (with_reducible exact ih3 _ _ _ _ _)
      | (with_reducible exact ih4 _ _ _ _ _)
      | (with_reducible exact LeO.refl _)
      | (with_reducible exact LeO.none _)
      | (with_reducible refine LeO.ite ?_ ?_)
      | (with_reducible refine LeO.bind ?_ (fun _ => ?_))
      | exact ih0 _ _ _ _
      | exact ih1 _ _ _ _ _
      | exact ih2 _ _ _ _ _
      | exact ih3 _ _ _ _ _
      | exact ih4 _ _ _ _ _
      | exact LeO.none _
      | refine LeO.ite ?_ ?_
      | refine LeO.bind ?_ (fun _ => ?_)
    · intro y0 y1 y2 y3 y4
      unfold spec_extRune.j1
      repeat' first
      | (with_reducible exact ih0 _ _ _ _)
      | (with_reducible exact ih1 _ _ _ _ _)
      | (with_reducible exact ih2 _ _ _ _ _)
      | (with_reducible exact ih3 _ _ _ _ _)
      | (with_reducible exact ih4 _ _ _ _ _)
      | (with_reducible exact LeO.refl _)
      | (with_reducible exact LeO.none _)
      | (with_reducible refine LeO.ite ?_ ?_)
      | (with_reducible refine LeO.bind ?_ (fun _ => ?_))
      | exact ih0 _ _ _ _
      | exact ih1 _ _ _ _ _
      | exact ih2 _ _ _ _ _
      | exact ih3 _ _ _ _ _
      | exact ih4 _ _ _ _ _
      | exact LeO.none _
      | refine LeO.ite ?_ ?_
      | refine LeO.bind ?_ (fun _ => ?_)
theorem spec_extRune.mono : ∀ a0 k, LeO (spec_extRune.f k a0) (spec_extRune.f (k + 1) a0) := by
  intro a0 k
  obtain ⟨ih0, ih1, ih2, ih3, ih4⟩ := spec_extRune.mono_l k
  unfold spec_extRune.f
  repeat' first
      | (with_reducible exact ih0 _ _ _ _)
      | (with_reducible exact ih1 _ _ _ _ _)
      | (with_reducible exact ih2 _ _ _ _ _)
      | (with_reducible exact ih3 _ _ _ _ _)
      | (with_reducible exact ih4 _ _ _ _ _)
      | (with_reducible exact LeO.refl _)
      | (with_reducible exact LeO.none _)
      | (with_reducible refine LeO.ite ?_ ?_)
      | (with_reducible refine LeO.bind ?_ (fun _ => ?_))
      | exact ih0 _ _ _ _
      | exact ih1 _ _ _ _ _
      | exact ih2 _ _ _ _ _
      | exact ih3 _ _ _ _ _
      | exact ih4 _ _ _ _ _
      | exact LeO.none _
      | refine LeO.ite ?_ ?_
      | refine LeO.bind ?_ (fun _ => ?_)
set_option maxHeartbeats 8000000 in
set_option maxRecDepth 100000 in
theorem spec_extRune.calls (k : Nat) (a0 : ByteArray) (r1 : Int) (r2 : Int) (w : World) (h : spec_extRune.f k a0 = some (r1, r2)) :
    Calls Tryz.prog 36 #[.string a0] w fun e w' => e = .returned (.tuple #[.int .i64 r1, .int .i64 r2]) ∧ Drawn0 w w' := by
  have H : (if a0.toList = ([] : List UInt8) then (some (0, 0)) else (if 0 < (a0.size : Int) then (if (wrap64 (bt a0 0)) < 128 then (some (1, wrap64 (bt a0 0))) else (if (wrap64 (bt a0 0)) ≥ 194 then (spec_extRune.j0 k a0 (wrap64 (bt a0 0)) 0 0 (decide ((wrap64 (bt a0 0)) < 224))) else (spec_extRune.j0 k a0 (wrap64 (bt a0 0)) 0 0 false))) else (none))) = some (r1, r2) := h
  clear h
  by_cases c2 : a0.toList = ([] : List UInt8)
  · rw [if_pos c2] at H
    have c2b0 : (a0.toList == ([] : List UInt8)) = true := beq_iff_eq.mpr c2
    have c2b1 : (a0.toList != ([] : List UInt8)) = false := bne_eq_false_iff_eq.mpr c2
    clear c2
    simp only [Option.some.injEq, Prod.mk.injEq] at H
    obtain ⟨rfl, rfl⟩ := H
    go_enter Tryz.func36, Tryz.ntmps36
    go_wp2
    go_ret2
    exact ⟨by first | rfl | (simp; done) | (simp [*]; done), by repeat (first | exact Drawn0.refl _ | apply Drawn0.step)⟩
  · rw [if_neg c2] at H
    have c2b0 : (a0.toList == ([] : List UInt8)) = false := beq_eq_false_iff_ne.mpr c2
    have c2b1 : (a0.toList != ([] : List UInt8)) = true := bne_iff_ne.mpr c2
    by_cases c3 : 0 < (a0.size : Int)
    · rw [if_pos c3] at H
      have c3b0 : decide (0 < (a0.size : Int)) = true := decide_eq_true c3
      have c3b1 : decide (0 < a0.size) = true := decide_eq_true (by omega)
      clear c3
      by_cases c5 : (wrap64 (bt a0 0)) < 128
      · rw [if_pos c5] at H
        have c5b0 : decide ((wrap64 (bt a0 0)) < 128) = true := decide_eq_true c5
        clear c5
        simp only [Option.some.injEq, Prod.mk.injEq] at H
        obtain ⟨rfl, rfl⟩ := H
        have p4 : 0 ≤ (0 : Int) := (by omega)
        have q4 : 0 < a0.size := (by have : (0 : Int) < (a0.size : Int) := of_decide_eq_true (by first | (with_reducible assumption) | assumption); omega)
        have hx4 : ∀ h : 0 < a0.size, ((a0[0]'h).toNat : Int) = bt a0 0 := bt_at a0 0
        clear p4
        have qi4 : (0 < (a0.size : Int)) = True := eq_true (of_decide_eq_true (by first | (with_reducible assumption) | assumption))
        replace q4 := eq_true q4
        go_enter Tryz.func36, Tryz.ntmps36
        go_wp2
        go_ret2
        exact ⟨by first | rfl | (simp; done) | (simp [*]; done), by repeat (first | exact Drawn0.refl _ | apply Drawn0.step)⟩
      · rw [if_neg c5] at H
        have c5b0 : decide ((wrap64 (bt a0 0)) < 128) = false := decide_eq_false c5
        clear c5
        have HC6 := Aside0.mk H
        clear H
        have p4 : 0 ≤ (0 : Int) := (by omega)
        have q4 : 0 < a0.size := (by have : (0 : Int) < (a0.size : Int) := of_decide_eq_true (by first | (with_reducible assumption) | assumption); omega)
        have hx4 : ∀ h : 0 < a0.size, ((a0[0]'h).toNat : Int) = bt a0 0 := bt_at a0 0
        clear p4
        have qi4 : (0 < (a0.size : Int)) = True := eq_true (of_decide_eq_true (by first | (with_reducible assumption) | assumption))
        replace q4 := eq_true q4
        go_enter Tryz.func36, Tryz.ntmps36
        go_upto_block 0 with (fail)
        go_cut [4, 5, 6] (fun v4 v5 v6 wc => ∃ (kq : Nat) (x4_5 : Int) (x5_5 : Int) (x6_5 : Int), v4 = .int .i64 x4_5 ∧ v5 = .int .i64 x5_5 ∧ v6 = .int .i64 x6_5 ∧ Aside0 (spec_extRune.j2 kq a0 x4_5 x5_5 x6_5 = some (r1, r2)) ∧ Aside0 (kq ≤ k) ∧ Drawn0 w wc)
        case first =>
          have H := HC6.out
          clear HC6
          have HC7 := Aside0.mk H
          clear H
          go_upto_region 7 with (fail)
          go_cut [16] (fun v16 wc => ∃ (kq : Nat) (x16_6 : Bool), v16 = .bool x16_6 ∧ Aside0 (spec_extRune.j0 kq a0 (wrap64 (bt a0 0)) 0 0 x16_6 = some (r1, r2)) ∧ Aside0 (kq ≤ k) ∧ Drawn0 w wc)
          case first =>
            have H := HC7.out
            clear HC7
            by_cases c8 : (wrap64 (bt a0 0)) ≥ 194
            · rw [if_pos c8] at H
              have c8b0 : decide (194 ≤ (wrap64 (bt a0 0))) = true := decide_eq_true c8
              clear c8
              (first | rw [c8b0] | (simp only [i64_w, i32_w]; rw [c8b0]) | skip)
              have H' := Aside0.mk H
              clear H
              go_wp2
              go_meet
              case rel => exact ⟨_, (decide ((wrap64 (bt a0 0)) < 224)), (by first | rfl | (simp; done) | (simp [*]; done)), H', ⟨by first | omega | exact Nat.le_refl _⟩, by repeat (first | exact Drawn0.refl _ | apply Drawn0.step)⟩
            · rw [if_neg c8] at H
              have c8b0 : decide (194 ≤ (wrap64 (bt a0 0))) = false := decide_eq_false c8
              clear c8
              (first | rw [c8b0] | (simp only [i64_w, i32_w]; rw [c8b0]) | skip)
              have H' := Aside0.mk H
              clear H
              go_wp2
              go_meet
              case rel => exact ⟨_, (false), (by first | rfl | (simp; done) | (simp [*]; done)), H', ⟨by first | omega | exact Nat.le_refl _⟩, by repeat (first | exact Drawn0.refl _ | apply Drawn0.step)⟩
          case rest =>
            clear HC7
            try clear c2
            try clear c2b0
            try clear c2b1
            try clear p2
            try clear c3
            try clear c3b0
            try clear c3b1
            try clear p4
            try clear q4
            try clear hx4
            try clear qi4
            try clear c5
            try clear c5b0
            try clear p6
            try clear c8
            try clear c8b0
            try clear p4
            try clear q4
            obtain ⟨kq, x16_6, rfl, HA, HJ6, ⟨mc6, rfl⟩⟩ := hcut
            cases kq with
            | zero => exact absurd HA.out (by simp [spec_extRune.j0])
            | succ kj6 =>
              have H := HA.out
              clear HA
              simp only [spec_extRune.j0] at H
              by_cases c9 : x16_6 = true
              · subst c9
                have H1 : (spec_extRune.j2 kj6 a0 (Go.bits .and .i64 (wrap64 (bt a0 0)) 31) 2 128) = some (r1, r2) := by rw [if_pos rfl] at H; exact H
                clear H
                have H := H1
                clear H1
                have H' := Aside0.mk H
                clear H
                go_wp2
                go_meet
                case rel => exact ⟨_, (Go.bits .and .i64 (wrap64 (bt a0 0)) 31), (2), (128), (by first | rfl | (simp; done) | (simp [*]; done)), (by first | rfl | (simp; done) | (simp [*]; done)), (by first | rfl | (simp; done) | (simp [*]; done)), H', ⟨by have := HJ6.out; first | omega | exact Nat.le_refl _⟩, by repeat (first | exact Drawn0.refl _ | apply Drawn0.step)⟩
              · replace c9 := Bool.eq_false_iff.mpr c9
                subst c9
                have H1 : (if (wrap64 (bt a0 0)) ≥ 224 then (spec_extRune.j1 kj6 a0 (wrap64 (bt a0 0)) 0 0 (decide ((wrap64 (bt a0 0)) < 240))) else (spec_extRune.j1 kj6 a0 (wrap64 (bt a0 0)) 0 0 false)) = some (r1, r2) := by rw [if_neg (show ¬ (false = true) by decide)] at H; exact H
                clear H
                have H := H1
                clear H1
                have HC10 := Aside0.mk H
                clear H
                go_upto_region 9 with (fail)
                go_cut [25] (fun v25 wc => ∃ (kq : Nat) (x25_9 : Bool), v25 = .bool x25_9 ∧ Aside0 (spec_extRune.j1 kq a0 (wrap64 (bt a0 0)) 0 0 x25_9 = some (r1, r2)) ∧ Aside0 (kq ≤ kj6) ∧ Drawn0 w wc)
                case first =>
                  have H := HC10.out
                  clear HC10
                  by_cases c11 : (wrap64 (bt a0 0)) ≥ 224
                  · rw [if_pos c11] at H
                    have c11b0 : decide (224 ≤ (wrap64 (bt a0 0))) = true := decide_eq_true c11
                    clear c11
                    (first | rw [c11b0] | (simp only [i64_w, i32_w]; rw [c11b0]) | skip)
                    have H' := Aside0.mk H
                    clear H
                    go_wp2
                    go_meet
                    case rel => exact ⟨_, (decide ((wrap64 (bt a0 0)) < 240)), (by first | rfl | (simp; done) | (simp [*]; done)), H', ⟨by have := HJ6.out; first | omega | exact Nat.le_refl _⟩, by repeat (first | exact Drawn0.refl _ | apply Drawn0.step)⟩
                  · rw [if_neg c11] at H
                    have c11b0 : decide (224 ≤ (wrap64 (bt a0 0))) = false := decide_eq_false c11
                    clear c11
                    (first | rw [c11b0] | (simp only [i64_w, i32_w]; rw [c11b0]) | skip)
                    have H' := Aside0.mk H
                    clear H
                    go_wp2
                    go_meet
                    case rel => exact ⟨_, (false), (by first | rfl | (simp; done) | (simp [*]; done)), H', ⟨by have := HJ6.out; first | omega | exact Nat.le_refl _⟩, by repeat (first | exact Drawn0.refl _ | apply Drawn0.step)⟩
                case rest =>
                  clear HC10
                  try clear c1
                  try clear c2
                  try clear c2b0
                  try clear c2b1
                  try clear p2
                  try clear c3
                  try clear c3b0
                  try clear c3b1
                  try clear p4
                  try clear q4
                  try clear hx4
                  try clear qi4
                  try clear c5
                  try clear c5b0
                  try clear c6
                  try clear p6
                  try clear c8
                  try clear c8b0
                  try clear c9
                  try clear c11
                  try clear c11b0
                  try clear p2
                  try clear p4
                  try clear p6
                  try clear q4
                  obtain ⟨kq, x25_9, rfl, HA, HJ9, ⟨mc9, rfl⟩⟩ := hcut
                  cases kq with
                  | zero => exact absurd HA.out (by simp [spec_extRune.j1])
                  | succ kj9 =>
                    have H := HA.out
                    clear HA
                    simp only [spec_extRune.j1] at H
                    by_cases c12 : x25_9 = true
                    · subst c12
                      have H1 : (spec_extRune.j2 kj9 a0 (Go.bits .and .i64 (wrap64 (bt a0 0)) 15) 3 2048) = some (r1, r2) := by rw [if_pos rfl] at H; exact H
                      clear H
                      have H := H1
                      clear H1
                      have H' := Aside0.mk H
                      clear H
                      go_wp2
                      go_meet
                      case rel => exact ⟨_, (Go.bits .and .i64 (wrap64 (bt a0 0)) 15), (3), (2048), (by first | rfl | (simp; done) | (simp [*]; done)), (by first | rfl | (simp; done) | (simp [*]; done)), (by first | rfl | (simp; done) | (simp [*]; done)), H', ⟨by have := HJ6.out; have := HJ9.out; first | omega | exact Nat.le_refl _⟩, by repeat (first | exact Drawn0.refl _ | apply Drawn0.step)⟩
                    · replace c12 := Bool.eq_false_iff.mpr c12
                      subst c12
                      have H1 : (if (wrap64 (bt a0 0)) ≥ 240 then (if (wrap64 (bt a0 0)) < 245 then (spec_extRune.j2 kj9 a0 (Go.bits .and .i64 (wrap64 (bt a0 0)) 7) 4 65536) else (spec_extRune.j2 kj9 a0 (wrap64 (bt a0 0)) 0 0)) else (spec_extRune.j2 kj9 a0 (wrap64 (bt a0 0)) 0 0)) = some (r1, r2) := by rw [if_neg (show ¬ (false = true) by decide)] at H; exact H
                      clear H
                      have H := H1
                      clear H1
                      by_cases c13 : (wrap64 (bt a0 0)) ≥ 240
                      · rw [if_pos c13] at H
                        have c13b0 : decide (240 ≤ (wrap64 (bt a0 0))) = true := decide_eq_true c13
                        clear c13
                        by_cases c14 : (wrap64 (bt a0 0)) < 245
                        · rw [if_pos c14] at H
                          have c14b0 : decide ((wrap64 (bt a0 0)) < 245) = true := decide_eq_true c14
                          clear c14
                          have H' := Aside0.mk H
                          clear H
                          go_wp2
                          go_meet
                          case rel => exact ⟨_, (Go.bits .and .i64 (wrap64 (bt a0 0)) 7), (4), (65536), (by first | rfl | (simp; done) | (simp [*]; done)), (by first | rfl | (simp; done) | (simp [*]; done)), (by first | rfl | (simp; done) | (simp [*]; done)), H', ⟨by have := HJ6.out; have := HJ9.out; first | omega | exact Nat.le_refl _⟩, by repeat (first | exact Drawn0.refl _ | apply Drawn0.step)⟩
                        · rw [if_neg c14] at H
                          have c14b0 : decide ((wrap64 (bt a0 0)) < 245) = false := decide_eq_false c14
                          clear c14
                          have H' := Aside0.mk H
                          clear H
                          go_wp2
                          go_meet
                          case rel => exact ⟨_, ((wrap64 (bt a0 0))), (0), (0), (by first | rfl | (simp; done) | (simp [*]; done)), (by first | rfl | (simp; done) | (simp [*]; done)), (by first | rfl | (simp; done) | (simp [*]; done)), H', ⟨by have := HJ6.out; have := HJ9.out; first | omega | exact Nat.le_refl _⟩, by repeat (first | exact Drawn0.refl _ | apply Drawn0.step)⟩
                      · rw [if_neg c13] at H
                        have c13b0 : decide (240 ≤ (wrap64 (bt a0 0))) = false := decide_eq_false c13
                        clear c13
                        have H' := Aside0.mk H
                        clear H
                        go_wp2
                        go_meet
                        case rel => exact ⟨_, ((wrap64 (bt a0 0))), (0), (0), (by first | rfl | (simp; done) | (simp [*]; done)), (by first | rfl | (simp; done) | (simp [*]; done)), (by first | rfl | (simp; done) | (simp [*]; done)), H', ⟨by have := HJ6.out; have := HJ9.out; first | omega | exact Nat.le_refl _⟩, by repeat (first | exact Drawn0.refl _ | apply Drawn0.step)⟩
        case rest =>
          clear HC6
          try clear c1
          try clear c2
          try clear c2b0
          try clear c2b1
          try clear p2
          try clear c3
          try clear c3b0
          try clear c3b1
          try clear p4
          try clear q4
          try clear hx4
          try clear qi4
          try clear c5
          try clear c5b0
          try clear c6
          try clear p6
          try clear c8
          try clear c8b0
          try clear c9
          try clear c11
          try clear c11b0
          try clear c12
          try clear c13
          try clear c13b0
          try clear c14
          try clear c14b0
          try clear p2
          try clear p4
          try clear p6
          try clear q4
          obtain ⟨kq, x4_5, x5_5, x6_5, rfl, rfl, rfl, HA, HJ5, ⟨mc5, rfl⟩⟩ := hcut
          cases kq with
          | zero => exact absurd HA.out (by simp [spec_extRune.j2])
          | succ kj5 =>
            have H := HA.out
            clear HA
            simp only [spec_extRune.j2] at H
            have HC15 := Aside0.mk H
            clear H
            go_upto_region 13 with (fail)
            go_cut [50] (fun v50 wc => ∃ (kq : Nat) (x50_14 : Bool), v50 = .bool x50_14 ∧ Aside0 (spec_extRune.j3 kq a0 x4_5 x5_5 x6_5 x50_14 = some (r1, r2)) ∧ Aside0 (kq ≤ kj5) ∧ Drawn0 w wc)
            case first =>
              have H := HC15.out
              clear HC15
              by_cases c16 : x5_5 = 0
              · rw [if_pos c16] at H
                have c16b0 : (x5_5 == 0) = true := beq_iff_eq.mpr c16
                have c16b1 : (x5_5 != 0) = false := bne_eq_false_iff_eq.mpr c16
                clear c16
                (first | rw [c16b0] | (simp only [i64_w, i32_w]; rw [c16b0]) | skip)
                have H' := Aside0.mk H
                clear H
                go_wp2
                go_meet
                case rel => exact ⟨_, (true), (by first | rfl | (simp; done) | (simp [*]; done)), H', ⟨by have := HJ5.out; first | omega | exact Nat.le_refl _⟩, by repeat (first | exact Drawn0.refl _ | apply Drawn0.step)⟩
              · rw [if_neg c16] at H
                have c16b0 : (x5_5 == 0) = false := beq_eq_false_iff_ne.mpr c16
                have c16b1 : (x5_5 != 0) = true := bne_iff_ne.mpr c16
                (first | rw [c16b0] | (simp only [i64_w, i32_w]; rw [c16b0]) | skip)
                have H' := Aside0.mk H
                clear H
                go_wp2
                go_meet
                case rel => exact ⟨_, (decide ((a0.size : Int) < x5_5)), (by first | rfl | (simp; done) | (simp [*]; done)), H', ⟨by have := HJ5.out; first | omega | exact Nat.le_refl _⟩, by repeat (first | exact Drawn0.refl _ | apply Drawn0.step)⟩
            case rest =>
              clear HC15
              try clear c1
              try clear c2
              try clear c2b0
              try clear c2b1
              try clear p2
              try clear c3
              try clear c3b0
              try clear c3b1
              try clear p4
              try clear q4
              try clear hx4
              try clear qi4
              try clear c5
              try clear c5b0
              try clear c6
              try clear p6
              try clear c8
              try clear c8b0
              try clear c9
              try clear c11
              try clear c11b0
              try clear c12
              try clear c13
              try clear c13b0
              try clear c14
              try clear c14b0
              try clear c16
              try clear c16b0
              try clear c16b1
              try clear p2
              try clear p4
              try clear p6
              try clear q4
              obtain ⟨kq, x50_14, rfl, HA, HJ14, ⟨mc14, rfl⟩⟩ := hcut
              cases kq with
              | zero => exact absurd HA.out (by simp [spec_extRune.j3])
              | succ kj14 =>
                have H := HA.out
                clear HA
                simp only [spec_extRune.j3] at H
                by_cases c17 : x50_14 = true
                · subst c17
                  have H1 : (some (0, 0)) = some (r1, r2) := by rw [if_pos rfl] at H; exact H
                  clear H
                  have H := H1
                  clear H1
                  simp only [Option.some.injEq, Prod.mk.injEq] at H
                  obtain ⟨rfl, rfl⟩ := H
                  go_wp2
                  go_ret2
                  exact ⟨by first | rfl | (simp; done) | (simp [*]; done), by repeat (first | exact Drawn0.refl _ | apply Drawn0.step)⟩
                · replace c17 := Bool.eq_false_iff.mpr c17
                  subst c17
                  have H1 : (spec_extRune.l0 kj14 a0 x4_5 x5_5 x6_5 1) = some (r1, r2) := by rw [if_neg (show ¬ (false = true) by decide)] at H; exact H
                  clear H
                  have H := H1
                  clear H1
                  have H' := Aside0.mk H
                  clear H
                  go_wp2
                  go_loopg [4, 7] kj14 (fun kq v4 v7 w' => ∃ (x4_3 : Int) (x7_3 : Int), v4 = .int .i64 x4_3 ∧ v7 = .int .i64 x7_3 ∧ Aside0 (spec_extRune.l0 kq a0 x4_3 x5_5 x6_5 x7_3 = some (r1, r2)) ∧ Aside0 (kq ≤ kj14) ∧ Drawn0 w w')
                  case atStart => exact ⟨(x4_5), (1), (by first | rfl | (simp; done) | (simp [*]; done)), (by first | rfl | (simp; done) | (simp [*]; done)), H', ⟨Nat.le_refl _⟩, by repeat (first | exact Drawn0.refl _ | apply Drawn0.step)⟩
                  case round =>
                    clear H'
                    try clear c1
                    try clear c2
                    try clear c2b0
                    try clear c2b1
                    try clear p2
                    try clear c3
                    try clear c3b0
                    try clear c3b1
                    try clear p4
                    try clear q4
                    try clear hx4
                    try clear qi4
                    try clear c5
                    try clear c5b0
                    try clear c6
                    try clear p6
                    try clear c8
                    try clear c8b0
                    try clear c9
                    try clear c11
                    try clear c11b0
                    try clear c12
                    try clear c13
                    try clear c13b0
                    try clear c14
                    try clear c14b0
                    try clear c16
                    try clear c16b0
                    try clear c16b1
                    try clear c17
                    try clear p2
                    try clear p4
                    try clear p6
                    try clear q4
                    obtain ⟨x4_3, x7_3, rfl, rfl, HA, HK3, ⟨m3, rfl⟩⟩ := hrel
                    cases gk with
                    | zero => exact absurd HA.out (by simp [spec_extRune.l0])
                    | succ k3 =>
                      have H := HA.out
                      clear HA
                      simp only [spec_extRune.l0] at H
                      by_cases c18 : x7_3 < x5_5
                      · rw [if_pos c18] at H
                        have c18b0 : decide (x7_3 < x5_5) = true := decide_eq_true c18
                        clear c18
                        by_cases c19 : 0 ≤ x7_3
                        · rw [if_pos c19] at H
                          have c19b0 : decide (0 ≤ x7_3) = true := decide_eq_true c19
                          clear c19
                          by_cases c20 : x7_3 < (a0.size : Int)
                          · rw [if_pos c20] at H
                            have c20b0 : decide (x7_3 < (a0.size : Int)) = true := decide_eq_true c20
                            clear c20
                            by_cases c22 : ((bt a0 x7_3) / 64) = 2
                            · rw [if_pos c22] at H
                              have c22b0 : (((bt a0 x7_3) / 64) == 2) = true := beq_iff_eq.mpr c22
                              have c22b1 : (((bt a0 x7_3) / 64) != 2) = false := bne_eq_false_iff_eq.mpr c22
                              clear c22
                              have H' := Aside0.mk H
                              clear H
                              have p21 : 0 ≤ (x7_3 : Int) := of_decide_eq_true (by first | (with_reducible assumption) | assumption)
                              have q21 : x7_3 < (a0.size : Int) := of_decide_eq_true (by first | (with_reducible assumption) | assumption)
                              have hx21 := bt_at a0 x7_3
                              replace p21 := eq_true p21
                              replace q21 := eq_true q21
                              have p23 : 0 ≤ (x7_3 : Int) := of_decide_eq_true (by first | (with_reducible assumption) | assumption)
                              have q23 : x7_3 < (a0.size : Int) := of_decide_eq_true (by first | (with_reducible assumption) | assumption)
                              have hx23 := bt_at a0 x7_3
                              replace p23 := eq_true p23
                              replace q23 := eq_true q23
                              go_wp2
                              go_roundg k3
                              case measure => have := HJ5.out; have := HJ14.out; have := HK3.out; omega
                              case rel => exact ⟨(Go.bits .or .i64 (wrap64 (x4_3 * 64)) (wrap64 (Go.bits .and .u8 (bt a0 x7_3) 63))), (wrap64 (x7_3 + 1)), (by first | rfl | (simp; done) | (simp [*]; done)), (by first | rfl | (simp; done) | (simp [*]; done)), H', ⟨by have := HJ5.out; have := HJ14.out; have := HK3.out; omega⟩, by repeat (first | exact Drawn0.refl _ | apply Drawn0.step)⟩
                            · rw [if_neg c22] at H
                              have c22b0 : (((bt a0 x7_3) / 64) == 2) = false := beq_eq_false_iff_ne.mpr c22
                              have c22b1 : (((bt a0 x7_3) / 64) != 2) = true := bne_iff_ne.mpr c22
                              simp only [Option.some.injEq, Prod.mk.injEq] at H
                              obtain ⟨rfl, rfl⟩ := H
                              have p21 : 0 ≤ (x7_3 : Int) := of_decide_eq_true (by first | (with_reducible assumption) | assumption)
                              have q21 : x7_3 < (a0.size : Int) := of_decide_eq_true (by first | (with_reducible assumption) | assumption)
                              have hx21 := bt_at a0 x7_3
                              replace p21 := eq_true p21
                              replace q21 := eq_true q21
                              go_wp2
                              go_ret2
                              exact ⟨by first | rfl | (simp; done) | (simp [*]; done), by repeat (first | exact Drawn0.refl _ | apply Drawn0.step)⟩
                          · rw [if_neg c20] at H
                            exact absurd H (by simp)
                        · rw [if_neg c19] at H
                          exact absurd H (by simp)
                      · rw [if_neg c18] at H
                        have c18b0 : decide (x7_3 < x5_5) = false := decide_eq_false c18
                        clear c18
                        by_cases c24 : x4_3 < x6_5
                        · rw [if_pos c24] at H
                          have c24b0 : decide (x4_3 < x6_5) = true := decide_eq_true c24
                          clear c24
                          simp only [Option.some.injEq, Prod.mk.injEq] at H
                          obtain ⟨rfl, rfl⟩ := H
                          go_wp2
                          go_ret2
                          exact ⟨by first | rfl | (simp; done) | (simp [*]; done), by repeat (first | exact Drawn0.refl _ | apply Drawn0.step)⟩
                        · rw [if_neg c24] at H
                          have c24b0 : decide (x4_3 < x6_5) = false := decide_eq_false c24
                          clear c24
                          by_cases c25 : x4_3 > 1114111
                          · rw [if_pos c25] at H
                            have c25b0 : decide (1114111 < x4_3) = true := decide_eq_true c25
                            clear c25
                            simp only [Option.some.injEq, Prod.mk.injEq] at H
                            obtain ⟨rfl, rfl⟩ := H
                            go_wp2
                            go_ret2
                            exact ⟨by first | rfl | (simp; done) | (simp [*]; done), by repeat (first | exact Drawn0.refl _ | apply Drawn0.step)⟩
                          · rw [if_neg c25] at H
                            have c25b0 : decide (1114111 < x4_3) = false := decide_eq_false c25
                            clear c25
                            by_cases c26 : x4_3 ≥ 55296
                            · rw [if_pos c26] at H
                              have c26b0 : decide (55296 ≤ x4_3) = true := decide_eq_true c26
                              clear c26
                              by_cases c27 : x4_3 < 57344
                              · rw [if_pos c27] at H
                                have c27b0 : decide (x4_3 < 57344) = true := decide_eq_true c27
                                clear c27
                                simp only [Option.some.injEq, Prod.mk.injEq] at H
                                obtain ⟨rfl, rfl⟩ := H
                                go_wp2
                                go_ret2
                                exact ⟨by first | rfl | (simp; done) | (simp [*]; done), by repeat (first | exact Drawn0.refl _ | apply Drawn0.step)⟩
                              · rw [if_neg c27] at H
                                have c27b0 : decide (x4_3 < 57344) = false := decide_eq_false c27
                                clear c27
                                simp only [Option.some.injEq, Prod.mk.injEq] at H
                                obtain ⟨rfl, rfl⟩ := H
                                go_wp2
                                go_ret2
                                exact ⟨by first | rfl | (simp; done) | (simp [*]; done), by repeat (first | exact Drawn0.refl _ | apply Drawn0.step)⟩
                            · rw [if_neg c26] at H
                              have c26b0 : decide (55296 ≤ x4_3) = false := decide_eq_false c26
                              clear c26
                              simp only [Option.some.injEq, Prod.mk.injEq] at H
                              obtain ⟨rfl, rfl⟩ := H
                              go_wp2
                              go_ret2
                              exact ⟨by first | rfl | (simp; done) | (simp [*]; done), by repeat (first | exact Drawn0.refl _ | apply Drawn0.step)⟩
    · rw [if_neg c3] at H
      exact absurd H (by simp)

/-- A state of type 67 at block g of W; what its slices lead to came in by w0. -/
def IsS67 (w0 W : World) (g : Nat) (f0 : List Int) (f1 : Int) (f2 : Bool) (f3 : Bool) : Prop := ∃ A0 c0, W.heap[g]? = some (.cells #[.slice A0 f0.length c0, .int .i64 f1, .bool f2, .bool f3] 67 (0, 0)) ∧ w0.heap.size ≤ g ∧ Kd.C (Kd.int .u8) w0 A0 f0.length f0
theorem IsS67.grown {w0 W : World} {g : Nat} {f0 : List Int} {f1 : Int} {f2 : Bool} {f3 : Bool} {W1 : World} {row : Option Nat} (h : IsS67 w0 W g f0 f1 f2 f3) (hw : W.grownBy W1 row) (hne : some g ≠ row) : IsS67 w0 W1 g f0 f1 f2 f3 := by
  obtain ⟨A0, c0, hb, hg, hr0⟩ := h
  exact ⟨A0, c0, blk_grown hb hw hne, hg, hr0⟩
theorem IsS67.own_neN {w0 W : World} {g : Nat} {f0 : List Int} {f1 : Int} {f2 : Bool} {f3 : Bool} {α : Type} {d : Kd α} {e : Nat} {base : Nat} {ok : Nat → Prop} {v : Value} {xs : List α} (h : IsS67 w0 W g f0 f1 f2 f3) (ho : Kd.N d e W base ok v xs) (ht : e ≠ 67) : some g ≠ v.ownBlock := by
  obtain ⟨A0, c0, hb, hg, hr0⟩ := h
  exact Kd.N_ne ho hb ht
theorem IsS67.fresh {w0 W : World} {g : Nat} {f0 : List Int} {f1 : Int} {f2 : Bool} {f3 : Bool} (h : IsS67 w0 W g f0 f1 f2 f3) : ∀ k, W.heap.size ≤ k → k ≠ g := by
  obtain ⟨A0, c0, hb, hg, hr0⟩ := h
  exact Kd.freshB hb
theorem IsS67.kept {w0 W : World} {g : Nat} {f0 : List Int} {f1 : Int} {f2 : Bool} {f3 : Bool} {W1 : World} {S : Nat → Prop} (h : IsS67 w0 W g f0 f1 f2 f3) (hk : Kept W W1 S) (hne : ¬ S g) : IsS67 w0 W1 g f0 f1 f2 f3 := by
  obtain ⟨A0, c0, hb, hg, hr0⟩ := h
  exact ⟨A0, c0, blk_kept hb hk hne, hg, hr0⟩
theorem IsS67.below {w0 W : World} {g : Nat} {f0 : List Int} {f1 : Int} {f2 : Bool} {f3 : Bool} {W1 : World} (h : IsS67 w0 W g f0 f1 f2 f3) (hw : Below W.heap.size W W1) : IsS67 w0 W1 g f0 f1 f2 f3 := h.grown (grown_of_below hw none) (by simp)
theorem IsS67.alloc {w0 W : World} {g : Nat} {f0 : List Int} {f1 : Int} {f2 : Bool} {f3 : Bool} (h : IsS67 w0 W g f0 f1 f2 f3) (o : Obj) : IsS67 w0 (W.alloc o) g f0 f1 f2 f3 := h.below (below_alloc (Below.refl _ _) o)
theorem IsS67.drewN {w0 W : World} {g : Nat} {f0 : List Int} {f1 : Int} {f2 : Bool} {f3 : Bool} (h : IsS67 w0 W g f0 f1 f2 f3) (m : Nat) : IsS67 w0 (W.drewN m) g f0 f1 f2 f3 := h
theorem IsS67.drew {w0 W : World} {g : Nat} {f0 : List Int} {f1 : Int} {f2 : Bool} {f3 : Bool} (h : IsS67 w0 W g f0 f1 f2 f3) : IsS67 w0 W.drew g f0 f1 f2 f3 := h
theorem IsS67.at_ {w0 W : World} {g : Nat} {f0 : List Int} {f1 : Int} {f2 : Bool} {f3 : Bool} {w' : World} {m : Nat} (hq : W.drewN m = w') (h : IsS67 w0 W g f0 f1 f2 f3) : IsS67 w0 w' g f0 f1 f2 f3 := by subst hq; exact IsS67.drewN h m
theorem IsS67.apart {w0 W : World} {g : Nat} {f0 : List Int} {f1 : Int} {f2 : Bool} {f3 : Bool} {α : Type} {d : Kd α} {e : Nat} {base : Nat} {ok : Nat → Prop} {v : Value} {xs : List α} (h : IsS67 w0 W g f0 f1 f2 f3) (ho : d.R e W base ok v xs) (ht : ∀ q, q ∈ e :: d.E → q ≠ 67) : d.R e W base (fun k => ok k ∧ k ≠ g) v xs := by
  obtain ⟨A0, c0, hb, hg, hr0⟩ := h
  exact Kd.R_types ho hb ht
theorem IsS67.own_ne {w0 W : World} {g : Nat} {f0 : List Int} {f1 : Int} {f2 : Bool} {f3 : Bool} {α : Type} {d : Kd α} {e : Nat} {base : Nat} {ok : Nat → Prop} {v : Value} {xs : List α} (h : IsS67 w0 W g f0 f1 f2 f3) (ho : d.R e W base ok v xs) (ht : e ≠ 67) : some g ≠ v.ownBlock := by
  obtain ⟨A0, c0, hb, hg, hr0⟩ := h
  exact Kd.R_ne ho hb ht
theorem IsS67.apartQ {w0 W : World} {g : Nat} {f0 : List Int} {f1 : Int} {f2 : Bool} {f3 : Bool} {α : Type} {d : Kd α} {e : Nat} {base : Nat} {ok : Nat → Prop} {v : Value} {xs : List α} (h : IsS67 w0 W g f0 f1 f2 f3) (ho : d.Q e W base ok v xs) (ht : ∀ q, q ∈ e :: d.E → q ≠ 67) : d.Q e W base (fun k => ok k ∧ k ≠ g) v xs := by
  obtain ⟨A0, c0, hb, hg, hr0⟩ := h
  exact Kd.Q_types ho hb ht
theorem IsS67.own_neQ {w0 W : World} {g : Nat} {f0 : List Int} {f1 : Int} {f2 : Bool} {f3 : Bool} {α : Type} {d : Kd α} {e : Nat} {base : Nat} {ok : Nat → Prop} {v : Value} {xs : List α} (h : IsS67 w0 W g f0 f1 f2 f3) (ho : d.Q e W base ok v xs) (ht : e ≠ 67) : some g ≠ v.ownBlock := by
  obtain ⟨A0, c0, hb, hg, hr0⟩ := h
  exact Kd.Q_ne ho hb ht
theorem IsS67.apartS {w0 W : World} {g : Nat} {f0 : List Int} {f1 : Int} {f2 : Bool} {f3 : Bool} {α : Type} {d : Kd α} {e : Nat} {base : Nat} {ok : Nat → Prop} {v : Value} {xs : List α} (h : IsS67 w0 W g f0 f1 f2 f3) (ho : d.S e W base ok v xs) (ht : ∀ q, q ∈ e :: d.E → q ≠ 67) : d.S e W base (fun k => ok k ∧ k ≠ g) v xs := by
  obtain ⟨A0, c0, hb, hg, hr0⟩ := h
  exact Kd.S_types ho hb ht
theorem IsS67.own_neS {w0 W : World} {g : Nat} {f0 : List Int} {f1 : Int} {f2 : Bool} {f3 : Bool} {α : Type} {d : Kd α} {e : Nat} {base : Nat} {ok : Nat → Prop} {v : Value} {xs : List α} (h : IsS67 w0 W g f0 f1 f2 f3) (ho : d.S e W base ok v xs) (ht : e ≠ 67) : some g ≠ v.ownBlock := by
  obtain ⟨A0, c0, hb, hg, hr0⟩ := h
  exact Kd.S_ne ho hb ht
theorem IsS67.lt {w0 W : World} {g : Nat} {f0 : List Int} {f1 : Int} {f2 : Bool} {f3 : Bool} (h : IsS67 w0 W g f0 f1 f2 f3) : g < W.heap.size := by
  obtain ⟨A0, c0, hb, hg, hr0⟩ := h
  exact blk_lt hb
theorem IsS67.ge {w0 W : World} {g : Nat} {f0 : List Int} {f1 : Int} {f2 : Bool} {f3 : Bool} (h : IsS67 w0 W g f0 f1 f2 f3) : w0.heap.size ≤ g := by
  obtain ⟨A0, c0, hb, hg, hr0⟩ := h
  exact hg
theorem IsS67.ne_blk {w0 W : World} {g : Nat} {f0 : List Int} {f1 : Int} {f2 : Bool} {f3 : Bool} {a : Nat} {cs : Array Value} {t : TypeId} {fr : Nat × Nat} (h : IsS67 w0 W g f0 f1 f2 f3) (hb2 : W.heap[a]? = some (.cells cs t fr)) (ht : t ≠ 67) : g ≠ a := by
  obtain ⟨A0, c0, hb, hg, hr0⟩ := h
  rintro rfl
  rw [hb] at hb2
  injection hb2 with hb2
  injection hb2 with _ ht2
  exact ht ht2.symm
theorem IsS67.far {w0 W : World} {g : Nat} {f0 : List Int} {f1 : Int} {f2 : Bool} {f3 : Bool} {p : Addr} (h : IsS67 w0 W g f0 f1 f2 f3) (hne : g ≠ p.block) (u : Value) : IsS67 w0 (W.setCell p u) g f0 f1 f2 f3 := by
  obtain ⟨A0, c0, hb, hg, hr0⟩ := h
  exact ⟨A0, c0, blk_far hb hne u, hg, hr0⟩
theorem cellS67_0 {W : World} {g : Nat} {A0 : Option Addr} {c0 : Nat} {f0 : List Int} {f1 : Int} {f2 : Bool} {f3 : Bool} (h : W.heap[g]? = some (.cells #[.slice A0 f0.length c0, .int .i64 f1, .bool f2, .bool f3] 67 (0, 0))) : W.cell? ⟨g, 0, none⟩ = some (.slice A0 f0.length c0) := (blk_cell h 0).trans rfl
theorem cellS67_1 {W : World} {g : Nat} {A0 : Option Addr} {c0 : Nat} {f0 : List Int} {f1 : Int} {f2 : Bool} {f3 : Bool} (h : W.heap[g]? = some (.cells #[.slice A0 f0.length c0, .int .i64 f1, .bool f2, .bool f3] 67 (0, 0))) : W.cell? ⟨g, 1, none⟩ = some (.int .i64 f1) := (blk_cell h 1).trans rfl
theorem IsS67.set_1 {w0 W : World} {g : Nat} {f0 : List Int} {f1 : Int} {f2 : Bool} {f3 : Bool} (h : IsS67 w0 W g f0 f1 f2 f3) (x : Int) : IsS67 w0 (W.setCell ⟨g, 1, none⟩ (.int .i64 x)) g f0 x f2 f3 := by
  obtain ⟨A0, c0, hb, hg, hr0⟩ := h
  exact ⟨A0, c0, by simpa using blk_set hb 1 (.int .i64 x), hg, hr0⟩
theorem cellS67_2 {W : World} {g : Nat} {A0 : Option Addr} {c0 : Nat} {f0 : List Int} {f1 : Int} {f2 : Bool} {f3 : Bool} (h : W.heap[g]? = some (.cells #[.slice A0 f0.length c0, .int .i64 f1, .bool f2, .bool f3] 67 (0, 0))) : W.cell? ⟨g, 2, none⟩ = some (.bool f2) := (blk_cell h 2).trans rfl
theorem IsS67.set_2 {w0 W : World} {g : Nat} {f0 : List Int} {f1 : Int} {f2 : Bool} {f3 : Bool} (h : IsS67 w0 W g f0 f1 f2 f3) (x : Bool) : IsS67 w0 (W.setCell ⟨g, 2, none⟩ (.bool x)) g f0 f1 x f3 := by
  obtain ⟨A0, c0, hb, hg, hr0⟩ := h
  exact ⟨A0, c0, by simpa using blk_set hb 2 (.bool x), hg, hr0⟩
theorem cellS67_3 {W : World} {g : Nat} {A0 : Option Addr} {c0 : Nat} {f0 : List Int} {f1 : Int} {f2 : Bool} {f3 : Bool} (h : W.heap[g]? = some (.cells #[.slice A0 f0.length c0, .int .i64 f1, .bool f2, .bool f3] 67 (0, 0))) : W.cell? ⟨g, 3, none⟩ = some (.bool f3) := (blk_cell h 3).trans rfl
theorem IsS67.set_3 {w0 W : World} {g : Nat} {f0 : List Int} {f1 : Int} {f2 : Bool} {f3 : Bool} (h : IsS67 w0 W g f0 f1 f2 f3) (x : Bool) : IsS67 w0 (W.setCell ⟨g, 3, none⟩ (.bool x)) g f0 f1 f2 x := by
  obtain ⟨A0, c0, hb, hg, hr0⟩ := h
  exact ⟨A0, c0, by simpa using blk_set hb 3 (.bool x), hg, hr0⟩
theorem IsS67.new (w0 W : World) (A0 : Option Addr) (c0 : Nat) (f0 : List Int) (f1 : Int) (f2 : Bool) (f3 : Bool) (hB : Below w0.heap.size w0 W) (hr0 : Kd.C (Kd.int .u8) w0 A0 f0.length f0) : IsS67 w0 (W.alloc (.cells #[.slice A0 f0.length c0, .int .i64 f1, .bool f2, .bool f3] 67)) W.heap.size f0 f1 f2 f3 := ⟨A0, c0, by simpa using heap_alloc_new W _, hB.size, hr0⟩

/-! ### spec_extStyle_next: function 37 -/
def spec_extStyle_next.f (s0_0 : List Int) (s0_1 : Int) (s0_2 : Bool) (s0_3 : Bool) (a1 : Int) : Option (Int × Int × Bool × Bool) := if s0_1 ≥ (s0_0.length : Int) then (some (0, s0_1, s0_2, s0_3)) else (if 0 ≤ (wrap64 ((wrap64 (s0_1 + 1)) - 1)) then (if (wrap64 ((wrap64 (s0_1 + 1)) - 1)) < (s0_0.length : Int) then (if a1 = 0 then (none) else (some (Int.tmod (wrap64 (rd s0_0 (wrap64 ((wrap64 (s0_1 + 1)) - 1)))) a1, wrap64 (s0_1 + 1), s0_2, s0_3))) else (none)) else (none))
set_option maxHeartbeats 8000000 in
set_option maxRecDepth 100000 in
theorem spec_extStyle_next.calls (g : Nat) (s0_0 : List Int) (s0_1 : Int) (s0_2 : Bool) (s0_3 : Bool) (a1 : Int) (r1 : Int) (r2 : Int) (r3 : Bool) (r4 : Bool) (w0 w : World) (hI : IsS67 w0 w g s0_0 s0_1 s0_2 s0_3) (hB : Below w0.heap.size w0 w) (h : spec_extStyle_next.f s0_0 s0_1 s0_2 s0_3 a1 = some (r1, r2, r3, r4)) :
    Calls Tryz.prog 37 #[.pointer (some ⟨g, 0, none⟩), .int .i64 a1] w fun e w' => e = .returned (.int .i64 r1) ∧ IsS67 w0 w' g s0_0 r2 r3 r4 ∧ Below w0.heap.size w0 w' ∧ KeepBut w w' g none := by
  have HI0 := Aside0.mk hI
  have HK := Aside0.mk (KeepBut.refl w g none)
  have HL := Aside0.mk hB.size
  clear hI
  have HW0 := Aside0.mk hB.size
  have HB := Aside0.mk hB
  clear hB
  have H : (if s0_1 ≥ (s0_0.length : Int) then (some (0, s0_1, s0_2, s0_3)) else (if 0 ≤ (wrap64 ((wrap64 (s0_1 + 1)) - 1)) then (if (wrap64 ((wrap64 (s0_1 + 1)) - 1)) < (s0_0.length : Int) then (if a1 = 0 then (none) else (some (Int.tmod (wrap64 (rd s0_0 (wrap64 ((wrap64 (s0_1 + 1)) - 1)))) a1, wrap64 (s0_1 + 1), s0_2, s0_3))) else (none)) else (none))) = some (r1, r2, r3, r4) := h
  clear h
  by_cases c3 : s0_1 ≥ (s0_0.length : Int)
  · rw [if_pos c3] at H
    have c3b0 : decide ((s0_0.length : Int) ≤ s0_1) = true := decide_eq_true c3
    clear c3
    simp only [Option.some.injEq, Prod.mk.injEq] at H
    obtain ⟨rfl, rfl, rfl, rfl⟩ := H
    obtain ⟨ASz4_0, cSz4_0, HGz4, hgz4, HSz4_0⟩ := HI0.out
    have hcz4_0 := cellS67_0 HGz4
    have hcz4_1 := cellS67_1 HGz4
    have hcz4_2 := cellS67_2 HGz4
    have hcz4_3 := cellS67_3 HGz4
    have hfz4_1 := blk_frozen HGz4 1
    have hfz4_2 := blk_frozen HGz4 2
    have hfz4_3 := blk_frozen HGz4 3
    clear HGz4 hgz4
    go_enter Tryz.func37, Tryz.ntmps37
    go_wp2
    repeat (go_quiet (fail); try go_wp2)
    go_ret
    exact ⟨by first | rfl | (simp [errW_none, errW_some] <;> rfl) | (simp [*, errW_none, errW_some] <;> rfl), by repeat (first | (with_reducible first | exact HI0.out | apply IsS67.alloc | apply IsS67.drewN | apply IsS67.drew | apply IsS67.set_1 | apply IsS67.set_2 | apply IsS67.set_3) | exact HI0.out), by repeat (first | (with_reducible first | exact HB.out | apply below_alloc | apply pw_below_drewN | apply below_drew1 | refine below_set ?_ (IsS67.ge HI0.out)) | exact HB.out), by repeat (first | (with_reducible first | exact HK.out | apply KeepBut.set_ | apply keep_drewN | apply keep_drew | apply keep_alloc) | exact HK.out)⟩
  · rw [if_neg c3] at H
    have c3b0 : decide ((s0_0.length : Int) ≤ s0_1) = false := decide_eq_false c3
    clear c3
    obtain ⟨ji5, hji5⟩ : ∃ j_ : Int, (wrap64 ((wrap64 (s0_1 + 1)) - 1)) = j_ := ⟨_, rfl⟩
    replace H : (if 0 ≤ (ji5) then (if (ji5) < (s0_0.length : Int) then (if a1 = 0 then (none) else (some (Int.tmod (wrap64 (rd s0_0 (ji5))) a1, wrap64 (s0_1 + 1), s0_2, s0_3))) else (none)) else (none)) = some (r1, r2, r3, r4) := by first | (rw [hji5] at H; exact H) | (simp only [hji5] at H ⊢; exact H)
    have hji5w : (IntKind.i64.wrap ((wrap64 (s0_1 + 1)) - 1)) = ji5 := (i64_w _).trans hji5
    by_cases c6 : 0 ≤ (ji5)
    · rw [if_pos c6] at H
      have c6b0 : decide (0 ≤ (ji5)) = true := decide_eq_true c6
      clear c6
      by_cases c7 : (ji5) < (s0_0.length : Int)
      · rw [if_pos c7] at H
        have c7b0 : decide ((ji5) < (s0_0.length : Int)) = true := decide_eq_true c7
        clear c7
        by_cases c8 : a1 = 0
        · rw [if_pos c8] at H
          exact absurd H (by simp)
        · rw [if_neg c8] at H
          have c8b0 : (a1 == 0) = false := beq_eq_false_iff_ne.mpr c8
          have c8b1 : (a1 != 0) = true := bne_iff_ne.mpr c8
          simp only [Option.some.injEq, Prod.mk.injEq] at H
          obtain ⟨rfl, rfl, rfl, rfl⟩ := H
          obtain ⟨ASz9_0, cSz9_0, HGz9, hgz9, HSz9_0⟩ := HI0.out
          have hcz9_0 := cellS67_0 HGz9
          have hcz9_1 := cellS67_1 HGz9
          have hcz9_2 := cellS67_2 HGz9
          have hcz9_3 := cellS67_3 HGz9
          have hfz9_1 := blk_frozen HGz9 1
          have hfz9_2 := blk_frozen HGz9 2
          have hfz9_3 := blk_frozen HGz9 3
          clear HGz9 hgz9
          have p189 : 0 ≤ ((ji5) : Int) := of_decide_eq_true (by first | (with_reducible assumption) | assumption)
          have q189 : (ji5) < (s0_0.length : Int) := of_decide_eq_true (by first | (with_reducible assumption) | assumption)
          obtain ⟨ad189, e189, hx189_0⟩ := Kd.at_int HSz9_0 (ji5) p189 q189
          cases e189
          have hn189_0 : ad189.block ≠ g := Nat.ne_of_lt (Nat.lt_of_lt_of_le (by have := World.block_lt_of_cell? _ _ hx189_0; first | rwa [add_block] at this | exact this) (IsS67.ge HI0.out))
          replace hx189_0 := pw_cell_below HB.out hx189_0
          replace hx189_0 := (cell_far (p := ⟨g, 1, none⟩) (by first | (rw [add_block]; exact hn189_0) | (show (Addr.add _ _).block ≠ _; rw [add_block]; exact hn189_0) | exact hn189_0) (.int .i64 (wrap64 (s0_1 + 1)))).trans hx189_0
          (try have hy189_0 := fun (n_ : Nat) => (show (((w.drewN n_).setCell ⟨g, 1, none⟩ (.int .i64 (wrap64 (s0_1 + 1))))).cell? _ = some _ from hx189_0))
          clear hn189_0
          replace p189 := eq_true p189
          replace q189 := eq_true q189
          go_enter Tryz.func37, Tryz.ntmps37
          go_wp2
          repeat (go_quiet (fail); try go_wp2)
          go_ret
          exact ⟨by first | rfl | (simp [errW_none, errW_some] <;> rfl) | (simp only [← hji5]; first | rfl | (simp [errW_none, errW_some] <;> rfl)) | (simp [*, errW_none, errW_some] <;> rfl), by repeat (first | (with_reducible first | exact HI0.out | apply IsS67.alloc | apply IsS67.drewN | apply IsS67.drew | apply IsS67.set_1 | apply IsS67.set_2 | apply IsS67.set_3) | exact HI0.out), by repeat (first | (with_reducible first | exact HB.out | apply below_alloc | apply pw_below_drewN | apply below_drew1 | refine below_set ?_ (IsS67.ge HI0.out)) | exact HB.out), by repeat (first | (with_reducible first | exact HK.out | apply KeepBut.set_ | apply keep_drewN | apply keep_drew | apply keep_alloc) | exact HK.out)⟩
      · rw [if_neg c7] at H
        exact absurd H (by simp)
    · rw [if_neg c6] at H
      exact absurd H (by simp)

end Go.Proofs.YtdabllkphibfmaaGreatDoor.PFnExtTokens
