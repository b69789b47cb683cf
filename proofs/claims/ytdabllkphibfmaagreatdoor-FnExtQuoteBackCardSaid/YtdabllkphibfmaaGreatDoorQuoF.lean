/- writeStringWithEscapes without HTML's escapes, by its contract. -/
import Derived.Test.YtdabllkphibfmaaGreatDoorQuo
namespace Go.Proofs.YtdabllkphibfmaaGreatDoor
open Go Go.RowKit PFnExtStrings Go.Proofs.YtdabllkphibfmaaGreatDoorW.PrintWords

set_option maxRecDepth 1000000 in
set_option maxHeartbeats 8000000 in
theorem writeEscF (x : ByteArray) (hx : x.size ≤ 300) (gb : Nat) (w0 w : World) (hch : Chars x 0) (hS : Sets w0) (hbuf : Lib.IsBuffer 107 5 w0.heap.size gb [] w) (hbel : Below w0.heap.size w0 w) :
    Calls Tryz.prog 42 #[.string x, .pointer (some ⟨gb, 0, none⟩), .bool false] w (QuoPost x gb w0) := by
  have hs0 : BSt w0 gb [] 0 w := ⟨hbuf, hbel, by simp⟩
  have HB := Lib.hid hs0
  have HC := Lib.hid hch
  have HS := Lib.hid hS
  clear hs0 hch hbuf hbel hS
  go_enter Tryz.func42, Tryz.ntmps42
  go_wp2_with (first | (go_at_call 60; refine (HB.out.byte (by decide) 34).mono ?_; rintro e w1 ⟨rfl, h1⟩; have HB1 := Lib.hid h1; clear h1))
  go_loopg [6, 7] x.size (fun m v6 v7 wx => Aside (∃ (st i : Nat) (E : List UInt8), m = x.size - i ∧ v6 = .int .i64 (st : Int) ∧ v7 = .int .i64 (i : Int) ∧ WR x gb w0 st i wx E))
  case atStart =>
    exact ⟨0, 0, [], rfl, rfl, rfl, ⟨by omega, by omega, HC.out, ⟨HB1.out.buf, HB1.out.below, by simp⟩, by simp, .nil, by rw [part_same]; exact .nil⟩⟩
  case round =>
    obtain ⟨st, i, E, hgk, rfl, rfl, hwr⟩ := hrel.out
    have hst := hwr.hst
    have hi := hwr.hi
    clear hrel HB1 HB HC
    have HW := Lib.hid hwr
    have HW2 := Lib.hid hwr.buf
    cases hwr.chars with
    | end_ =>
      clear hwr
      by_cases hlt : st < x.size
      · have hxs : (x.extract st x.size).size ≤ 1000 := by rw [← data_length, extract_part x st x.size hst, part_length x st x.size (Nat.le_refl _)]; omega
        go_wp2_with (first | (go_at_call 60; refine Calls.mono (BSt.byteI HW2.out (by decide) _ (by first | decide | omega)) ?_; rintro e w9 ⟨rfl, h9⟩; clear HW2; have HW2 := Lib.hid h9; clear h9) | (go_at_call 61; refine Calls.mono (BSt.str HW2.out (by decide) _ (by first | with_reducible exact hxs | decide)) ?_; rintro e w9 ⟨rfl, h9⟩; clear HW2; have HW2 := Lib.hid h9; clear h9))
        go_end0
        exact quo_end hx hst HW.out HW2.out (by rw [extract_part x st x.size hst]; simp)
      · have hse : st = x.size := by omega
        subst hse
        go_wp2_with (first | (go_at_call 60; refine Calls.mono (BSt.byteI HW2.out (by decide) _ (by first | decide | omega)) ?_; rintro e w9 ⟨rfl, h9⟩; clear HW2; have HW2 := Lib.hid h9; clear h9))
        go_end0
        exact quo_end hx hst HW.out HW2.out (by rw [part_same]; simp)
    | char _ m hlt hm hr ht hc =>
      clear hr
      have hset := HS.out.below hwr.buf.below
      clear hwr
      have HT := Lib.hid ht
      have HCC := Lib.hid hc
      by_cases h128 : m < 128
      · have hget := char_get ht h128 hlt
        have hh := hset.html m h128
        have hsf := hset.safe m h128
        have hL : (runeB m).length = 1 := by rw [runeB_one m h128]; rfl
        have hiL : i + (runeB m).length ≤ x.size := by omega
        clear hset ht hc
        by_cases hpl : htmlB m = true
        · have hok := plainB_ok (esc := false) (b := m) (by unfold plainB; rw [hpl]; rfl)
          rw [hpl] at hh
          go_wp2
          go_roundg (x.size - (i + 1))
          case measure => omega
          case rel => exact ⟨st, i + (runeB m).length, E, by rw [hL], rfl, by rw [hL]; rfl, HW.out.plain HT.out HCC.out hiL (by rw [runeB_one m h128]; intro c hc; exact plain_one h128 hok hc)⟩
        have hpl := eq_false_of_ne_true hpl
        rw [hpl] at hh
        by_cases hps : safeB m = true
        · have hok := plainB_ok (esc := false) (b := m) (by unfold plainB; rw [hps]; simp)
          rw [hps] at hsf
          go_wp2
          go_roundg (x.size - (i + 1))
          case measure => omega
          case rel => exact ⟨st, i + (runeB m).length, E, by rw [hL], rfl, by rw [hL]; rfl, HW.out.plain HT.out HCC.out hiL (by rw [runeB_one m h128]; intro c hc; exact plain_one h128 hok hc)⟩
        have hps := eq_false_of_ne_true hps
        rw [hps] at hsf
        by_cases hm34 : m = 34
        · subst hm34
          have hre : ReadAs [92, 34] (runeB 34) := .esc 34 34 (by decide) (by decide)
          rcases Nat.lt_or_eq_of_le hst with hf | hf
          · have hxs : (x.extract st i).size ≤ 1000 := by rw [← data_length, extract_part x st i hst, part_length x st i hi]; omega
            go_wp2_with (first | (go_at_call 60; refine Calls.mono (BSt.byteI HW2.out (by decide) _ (by first | decide | omega)) ?_; rintro e w9 ⟨rfl, h9⟩; clear HW2; have HW2 := Lib.hid h9; clear h9) | (go_at_call 61; refine Calls.mono (BSt.str HW2.out (by decide) _ (by first | with_reducible exact hxs | decide)) ?_; rintro e w9 ⟨rfl, h9⟩; clear HW2; have HW2 := Lib.hid h9; clear h9))
            go_roundg (x.size - (i + 1))
            case measure => omega
            case rel => exact ⟨_, _, _, by rw [hL], by rw [hL]; rfl, by rw [hL]; rfl, WR.esc (e := [92, 34]) hx HW.out HT.out HCC.out hiL (by decide) hre HW2.out (by rw [extract_part x st i hst]; simp)⟩
          · subst hf
            go_wp2_with (first | (go_at_call 60; refine Calls.mono (BSt.byteI HW2.out (by decide) _ (by first | decide | omega)) ?_; rintro e w9 ⟨rfl, h9⟩; clear HW2; have HW2 := Lib.hid h9; clear h9) | (go_at_call 61; refine Calls.mono (BSt.str HW2.out (by decide) _ (by decide)) ?_; rintro e w9 ⟨rfl, h9⟩; clear HW2; have HW2 := Lib.hid h9; clear h9))
            go_roundg (x.size - (st + 1))
            case measure => omega
            case rel => exact ⟨_, _, _, by rw [hL], by rw [hL]; rfl, by rw [hL]; rfl, WR.esc (e := [92, 34]) hx HW.out HT.out HCC.out hiL (by decide) hre HW2.out (by rw [part_same]; simp)⟩
        by_cases hm92 : m = 92
        · subst hm92
          have hre : ReadAs [92, 92] (runeB 92) := .esc 92 92 (by decide) (by decide)
          rcases Nat.lt_or_eq_of_le hst with hf | hf
          · have hxs : (x.extract st i).size ≤ 1000 := by rw [← data_length, extract_part x st i hst, part_length x st i hi]; omega
            go_wp2_with (first | (go_at_call 60; refine Calls.mono (BSt.byteI HW2.out (by decide) _ (by first | decide | omega)) ?_; rintro e w9 ⟨rfl, h9⟩; clear HW2; have HW2 := Lib.hid h9; clear h9) | (go_at_call 61; refine Calls.mono (BSt.str HW2.out (by decide) _ (by first | with_reducible exact hxs | decide)) ?_; rintro e w9 ⟨rfl, h9⟩; clear HW2; have HW2 := Lib.hid h9; clear h9))
            go_roundg (x.size - (i + 1))
            case measure => omega
            case rel => exact ⟨_, _, _, by rw [hL], by rw [hL]; rfl, by rw [hL]; rfl, WR.esc (e := [92, 92]) hx HW.out HT.out HCC.out hiL (by decide) hre HW2.out (by rw [extract_part x st i hst]; simp)⟩
          · subst hf
            go_wp2_with (first | (go_at_call 60; refine Calls.mono (BSt.byteI HW2.out (by decide) _ (by first | decide | omega)) ?_; rintro e w9 ⟨rfl, h9⟩; clear HW2; have HW2 := Lib.hid h9; clear h9) | (go_at_call 61; refine Calls.mono (BSt.str HW2.out (by decide) _ (by decide)) ?_; rintro e w9 ⟨rfl, h9⟩; clear HW2; have HW2 := Lib.hid h9; clear h9))
            go_roundg (x.size - (st + 1))
            case measure => omega
            case rel => exact ⟨_, _, _, by rw [hL], by rw [hL]; rfl, by rw [hL]; rfl, WR.esc (e := [92, 92]) hx HW.out HT.out HCC.out hiL (by decide) hre HW2.out (by rw [part_same]; simp)⟩
        by_cases hm10 : m = 10
        · subst hm10
          have hre : ReadAs [92, 110] (runeB 10) := .esc 110 10 (by decide) (by decide)
          rcases Nat.lt_or_eq_of_le hst with hf | hf
          · have hxs : (x.extract st i).size ≤ 1000 := by rw [← data_length, extract_part x st i hst, part_length x st i hi]; omega
            go_wp2_with (first | (go_at_call 60; refine Calls.mono (BSt.byteI HW2.out (by decide) _ (by first | decide | omega)) ?_; rintro e w9 ⟨rfl, h9⟩; clear HW2; have HW2 := Lib.hid h9; clear h9) | (go_at_call 61; refine Calls.mono (BSt.str HW2.out (by decide) _ (by first | with_reducible exact hxs | decide)) ?_; rintro e w9 ⟨rfl, h9⟩; clear HW2; have HW2 := Lib.hid h9; clear h9))
            go_roundg (x.size - (i + 1))
            case measure => omega
            case rel => exact ⟨_, _, _, by rw [hL], by rw [hL]; rfl, by rw [hL]; rfl, WR.esc (e := [92, 110]) hx HW.out HT.out HCC.out hiL (by decide) hre HW2.out (by rw [extract_part x st i hst]; simp)⟩
          · subst hf
            go_wp2_with (first | (go_at_call 60; refine Calls.mono (BSt.byteI HW2.out (by decide) _ (by first | decide | omega)) ?_; rintro e w9 ⟨rfl, h9⟩; clear HW2; have HW2 := Lib.hid h9; clear h9) | (go_at_call 61; refine Calls.mono (BSt.str HW2.out (by decide) _ (by decide)) ?_; rintro e w9 ⟨rfl, h9⟩; clear HW2; have HW2 := Lib.hid h9; clear h9))
            go_roundg (x.size - (st + 1))
            case measure => omega
            case rel => exact ⟨_, _, _, by rw [hL], by rw [hL]; rfl, by rw [hL]; rfl, WR.esc (e := [92, 110]) hx HW.out HT.out HCC.out hiL (by decide) hre HW2.out (by rw [part_same]; simp)⟩
        by_cases hm13 : m = 13
        · subst hm13
          have hre : ReadAs [92, 114] (runeB 13) := .esc 114 13 (by decide) (by decide)
          rcases Nat.lt_or_eq_of_le hst with hf | hf
          · have hxs : (x.extract st i).size ≤ 1000 := by rw [← data_length, extract_part x st i hst, part_length x st i hi]; omega
            go_wp2_with (first | (go_at_call 60; refine Calls.mono (BSt.byteI HW2.out (by decide) _ (by first | decide | omega)) ?_; rintro e w9 ⟨rfl, h9⟩; clear HW2; have HW2 := Lib.hid h9; clear h9) | (go_at_call 61; refine Calls.mono (BSt.str HW2.out (by decide) _ (by first | with_reducible exact hxs | decide)) ?_; rintro e w9 ⟨rfl, h9⟩; clear HW2; have HW2 := Lib.hid h9; clear h9))
            go_roundg (x.size - (i + 1))
            case measure => omega
            case rel => exact ⟨_, _, _, by rw [hL], by rw [hL]; rfl, by rw [hL]; rfl, WR.esc (e := [92, 114]) hx HW.out HT.out HCC.out hiL (by decide) hre HW2.out (by rw [extract_part x st i hst]; simp)⟩
          · subst hf
            go_wp2_with (first | (go_at_call 60; refine Calls.mono (BSt.byteI HW2.out (by decide) _ (by first | decide | omega)) ?_; rintro e w9 ⟨rfl, h9⟩; clear HW2; have HW2 := Lib.hid h9; clear h9) | (go_at_call 61; refine Calls.mono (BSt.str HW2.out (by decide) _ (by decide)) ?_; rintro e w9 ⟨rfl, h9⟩; clear HW2; have HW2 := Lib.hid h9; clear h9))
            go_roundg (x.size - (st + 1))
            case measure => omega
            case rel => exact ⟨_, _, _, by rw [hL], by rw [hL]; rfl, by rw [hL]; rfl, WR.esc (e := [92, 114]) hx HW.out HT.out HCC.out hiL (by decide) hre HW2.out (by rw [part_same]; simp)⟩
        by_cases hm9 : m = 9
        · subst hm9
          have hre : ReadAs [92, 116] (runeB 9) := .esc 116 9 (by decide) (by decide)
          rcases Nat.lt_or_eq_of_le hst with hf | hf
          · have hxs : (x.extract st i).size ≤ 1000 := by rw [← data_length, extract_part x st i hst, part_length x st i hi]; omega
            go_wp2_with (first | (go_at_call 60; refine Calls.mono (BSt.byteI HW2.out (by decide) _ (by first | decide | omega)) ?_; rintro e w9 ⟨rfl, h9⟩; clear HW2; have HW2 := Lib.hid h9; clear h9) | (go_at_call 61; refine Calls.mono (BSt.str HW2.out (by decide) _ (by first | with_reducible exact hxs | decide)) ?_; rintro e w9 ⟨rfl, h9⟩; clear HW2; have HW2 := Lib.hid h9; clear h9))
            go_roundg (x.size - (i + 1))
            case measure => omega
            case rel => exact ⟨_, _, _, by rw [hL], by rw [hL]; rfl, by rw [hL]; rfl, WR.esc (e := [92, 116]) hx HW.out HT.out HCC.out hiL (by decide) hre HW2.out (by rw [extract_part x st i hst]; simp)⟩
          · subst hf
            go_wp2_with (first | (go_at_call 60; refine Calls.mono (BSt.byteI HW2.out (by decide) _ (by first | decide | omega)) ?_; rintro e w9 ⟨rfl, h9⟩; clear HW2; have HW2 := Lib.hid h9; clear h9) | (go_at_call 61; refine Calls.mono (BSt.str HW2.out (by decide) _ (by decide)) ?_; rintro e w9 ⟨rfl, h9⟩; clear HW2; have HW2 := Lib.hid h9; clear h9))
            go_roundg (x.size - (st + 1))
            case measure => omega
            case rel => exact ⟨_, _, _, by rw [hL], by rw [hL]; rfl, by rw [hL]; rfl, WR.esc (e := [92, 116]) hx HW.out HT.out HCC.out hiL (by decide) hre HW2.out (by rw [part_same]; simp)⟩
        by_cases hm8 : m = 8
        · subst hm8
          have hre : ReadAs [92, 98] (runeB 8) := .esc 98 8 (by decide) (by decide)
          rcases Nat.lt_or_eq_of_le hst with hf | hf
          · have hxs : (x.extract st i).size ≤ 1000 := by rw [← data_length, extract_part x st i hst, part_length x st i hi]; omega
            go_wp2_with (first | (go_at_call 60; refine Calls.mono (BSt.byteI HW2.out (by decide) _ (by first | decide | omega)) ?_; rintro e w9 ⟨rfl, h9⟩; clear HW2; have HW2 := Lib.hid h9; clear h9) | (go_at_call 61; refine Calls.mono (BSt.str HW2.out (by decide) _ (by first | with_reducible exact hxs | decide)) ?_; rintro e w9 ⟨rfl, h9⟩; clear HW2; have HW2 := Lib.hid h9; clear h9))
            go_roundg (x.size - (i + 1))
            case measure => omega
            case rel => exact ⟨_, _, _, by rw [hL], by rw [hL]; rfl, by rw [hL]; rfl, WR.esc (e := [92, 98]) hx HW.out HT.out HCC.out hiL (by decide) hre HW2.out (by rw [extract_part x st i hst]; simp)⟩
          · subst hf
            go_wp2_with (first | (go_at_call 60; refine Calls.mono (BSt.byteI HW2.out (by decide) _ (by first | decide | omega)) ?_; rintro e w9 ⟨rfl, h9⟩; clear HW2; have HW2 := Lib.hid h9; clear h9) | (go_at_call 61; refine Calls.mono (BSt.str HW2.out (by decide) _ (by decide)) ?_; rintro e w9 ⟨rfl, h9⟩; clear HW2; have HW2 := Lib.hid h9; clear h9))
            go_roundg (x.size - (st + 1))
            case measure => omega
            case rel => exact ⟨_, _, _, by rw [hL], by rw [hL]; rfl, by rw [hL]; rfl, WR.esc (e := [92, 98]) hx HW.out HT.out HCC.out hiL (by decide) hre HW2.out (by rw [part_same]; simp)⟩
        by_cases hm12 : m = 12
        · subst hm12
          have hre : ReadAs [92, 102] (runeB 12) := .esc 102 12 (by decide) (by decide)
          rcases Nat.lt_or_eq_of_le hst with hf | hf
          · have hxs : (x.extract st i).size ≤ 1000 := by rw [← data_length, extract_part x st i hst, part_length x st i hi]; omega
            go_wp2_with (first | (go_at_call 60; refine Calls.mono (BSt.byteI HW2.out (by decide) _ (by first | decide | omega)) ?_; rintro e w9 ⟨rfl, h9⟩; clear HW2; have HW2 := Lib.hid h9; clear h9) | (go_at_call 61; refine Calls.mono (BSt.str HW2.out (by decide) _ (by first | with_reducible exact hxs | decide)) ?_; rintro e w9 ⟨rfl, h9⟩; clear HW2; have HW2 := Lib.hid h9; clear h9))
            go_roundg (x.size - (i + 1))
            case measure => omega
            case rel => exact ⟨_, _, _, by rw [hL], by rw [hL]; rfl, by rw [hL]; rfl, WR.esc (e := [92, 102]) hx HW.out HT.out HCC.out hiL (by decide) hre HW2.out (by rw [extract_part x st i hst]; simp)⟩
          · subst hf
            go_wp2_with (first | (go_at_call 60; refine Calls.mono (BSt.byteI HW2.out (by decide) _ (by first | decide | omega)) ?_; rintro e w9 ⟨rfl, h9⟩; clear HW2; have HW2 := Lib.hid h9; clear h9) | (go_at_call 61; refine Calls.mono (BSt.str HW2.out (by decide) _ (by decide)) ?_; rintro e w9 ⟨rfl, h9⟩; clear HW2; have HW2 := Lib.hid h9; clear h9))
            go_roundg (x.size - (st + 1))
            case measure => omega
            case rel => exact ⟨_, _, _, by rw [hL], by rw [hL]; rfl, by rw [hL]; rfl, WR.esc (e := [92, 102]) hx HW.out HT.out HCC.out hiL (by decide) hre HW2.out (by rw [part_same]; simp)⟩
        have hm32 : m < 32 ∨ m = 38 ∨ m = 60 ∨ m = 62 := other_true hpl hm34 hm92
        have n92 : ((m : Int) == 92) = false := by simp only [beq_eq_false_iff_ne, ne_eq]; omega
        have n34 : ((m : Int) == 34) = false := by simp only [beq_eq_false_iff_ne, ne_eq]; omega
        have n10 : ((m : Int) == 10) = false := by simp only [beq_eq_false_iff_ne, ne_eq]; omega
        have n13 : ((m : Int) == 13) = false := by simp only [beq_eq_false_iff_ne, ne_eq]; omega
        have n9 : ((m : Int) == 9) = false := by simp only [beq_eq_false_iff_ne, ne_eq]; omega
        have n8 : ((m : Int) == 8) = false := by simp only [beq_eq_false_iff_ne, ne_eq]; omega
        have n12 : ((m : Int) == 12) = false := by simp only [beq_eq_false_iff_ne, ne_eq]; omega
        have h15 : bits .and .u8 (m : Int) 15 = ((m % 16 : Nat) : Int) := by rw [u8_and15 (x := (m : Int)) (by omega) (by omega)]; omega
        have hq1 : m / 16 < 16 := by omega
        have hq2 : m % 16 < 16 := by omega
        rcases Nat.lt_or_eq_of_le hst with hf | hf
        · have hxs : (x.extract st i).size ≤ 1000 := by rw [← data_length, extract_part x st i hst, part_length x st i hi]; omega
          go_wp2_with (first | (go_at_call 60; refine Calls.mono (BSt.byteI HW2.out (by decide) _ (by first | decide | omega)) ?_; rintro e w9 ⟨rfl, h9⟩; clear HW2; have HW2 := Lib.hid h9; clear h9) | (go_at_call 60; refine Calls.mono (BSt.byte HW2.out (by decide) _) ?_; rintro e w9 ⟨rfl, h9⟩; clear HW2; have HW2 := Lib.hid h9; clear h9) | (go_at_call 61; refine Calls.mono (BSt.str HW2.out (by decide) _ (by first | with_reducible exact hxs | decide)) ?_; rintro e w9 ⟨rfl, h9⟩; clear HW2; have HW2 := Lib.hid h9; clear h9))
          go_roundg (x.size - (i + 1))
          case measure => omega
          case rel => exact ⟨_, _, _, by rw [hL], by rw [hL]; rfl, by rw [hL]; rfl, WR.esc (e := [92, 117, 48, 48, hexC[m / 16]'hq1, hexC[m % 16]'hq2]) hx HW.out HT.out HCC.out hiL (by simp) (hex_ok m h128 hq1 hq2) HW2.out (by rw [extract_part x st i hst]; simp [hexC])⟩
        · subst hf
          go_wp2_with (first | (go_at_call 60; refine Calls.mono (BSt.byteI HW2.out (by decide) _ (by first | decide | omega)) ?_; rintro e w9 ⟨rfl, h9⟩; clear HW2; have HW2 := Lib.hid h9; clear h9) | (go_at_call 60; refine Calls.mono (BSt.byte HW2.out (by decide) _) ?_; rintro e w9 ⟨rfl, h9⟩; clear HW2; have HW2 := Lib.hid h9; clear h9) | (go_at_call 61; refine Calls.mono (BSt.str HW2.out (by decide) _ (by decide)) ?_; rintro e w9 ⟨rfl, h9⟩; clear HW2; have HW2 := Lib.hid h9; clear h9))
          go_roundg (x.size - (st + 1))
          case measure => omega
          case rel => exact ⟨_, _, _, by rw [hL], by rw [hL]; rfl, by rw [hL]; rfl, WR.esc (e := [92, 117, 48, 48, hexC[m / 16]'hq1, hexC[m % 16]'hq2]) hx HW.out HT.out HCC.out hiL (by simp) (hex_ok m h128 hq1 hq2) HW2.out (by rw [part_same]; simp [hexC])⟩
      · have hset2 := hset.tabs
        have HTB := Lib.hid hset2
        have hne : ¬ (x.extract i x.size).size = 0 := by rw [← data_length, extract_part x i x.size hi, part_length x i x.size (Nat.le_refl _)]; omega
        have hdec : Lib.decodeGo (x.extract i x.size) = (m, (runeB m).length) := by
          unfold Lib.decodeGo
          rw [if_neg hne, decode_is (x.extract i x.size) 0 m hm (by omega) (by rw [List.drop_zero, drop_extract x i hi]; exact ht)]
        obtain ⟨L, hL⟩ : ∃ L, L = (runeB m).length := ⟨_, rfl⟩
        have hL2 : 1 < L := by rw [hL]; exact runeB_len2 m (by omega)
        have hL4 : L ≤ 4 := by rw [hL]; exact (runeB_len m).2
        have hiL : i + (runeB m).length ≤ x.size := by
          have h1 := congrArg List.length ht
          rw [List.length_take, List.length_drop, data_length] at h1
          omega
        have hiL2 : i + L ≤ x.size := by rw [hL]; exact hiL
        rw [← hL] at hdec
        have hget : ¬ ((x[i]'hlt).toNat < 128) := Nat.not_lt.2 (big_get ht (by omega) hlt)
        have nL1 : ((L : Int) == 1) = false := by simp only [beq_eq_false_iff_ne, ne_eq]; omega
        clear hset hset2 ht hc
        by_cases h8232 : m = 8232
        · subst h8232
          have hL3 : L = 3 := by rw [hL]; decide
          rw [hL3] at hdec
          rcases Nat.lt_or_eq_of_le hst with hf | hf
          · have hxs : (x.extract st i).size ≤ 1000 := by rw [← data_length, extract_part x st i hst, part_length x st i hi]; omega
            go_wp2_with (first | (go_at_call 60; refine Calls.mono (BSt.byteI HW2.out (by decide) _ (by first | decide | omega)) ?_; rintro e w9 ⟨rfl, h9⟩; clear HW2; have HW2 := Lib.hid h9; clear h9) | (go_at_call 60; refine Calls.mono (BSt.byte HW2.out (by decide) _) ?_; rintro e w9 ⟨rfl, h9⟩; clear HW2; have HW2 := Lib.hid h9; clear h9) | (go_at_call 62; refine Calls.mono (Tryz.utf8_DecodeRuneInString _ _ HTB.out) ?_; rintro e w9 ⟨rfl, h9⟩; rw [hdec]; have HW3 := Lib.hid (HW2.out.go h9); clear HW2; have HW2 := HW3; clear h9 HW3) | (go_at_call 61; refine Calls.mono (BSt.str HW2.out (by decide) _ (by first | with_reducible exact hxs | decide)) ?_; rintro e w9 ⟨rfl, h9⟩; clear HW2; have HW2 := Lib.hid h9; clear h9))
            go_roundg (x.size - (i + 3))
            case measure => omega
            case rel => exact ⟨_, _, _, by rw [← hL, hL3], by rw [← hL, hL3]; rfl, by rw [← hL, hL3]; rfl, WR.esc (e := [92, 117, 50, 48, 50, 56]) hx HW.out HT.out HCC.out hiL (by decide) u202_ok8 HW2.out (by rw [extract_part x st i hst]; simp; rfl)⟩
          · subst hf
            go_wp2_with (first | (go_at_call 60; refine Calls.mono (BSt.byteI HW2.out (by decide) _ (by first | decide | omega)) ?_; rintro e w9 ⟨rfl, h9⟩; clear HW2; have HW2 := Lib.hid h9; clear h9) | (go_at_call 60; refine Calls.mono (BSt.byte HW2.out (by decide) _) ?_; rintro e w9 ⟨rfl, h9⟩; clear HW2; have HW2 := Lib.hid h9; clear h9) | (go_at_call 62; refine Calls.mono (Tryz.utf8_DecodeRuneInString _ _ HTB.out) ?_; rintro e w9 ⟨rfl, h9⟩; rw [hdec]; have HW3 := Lib.hid (HW2.out.go h9); clear HW2; have HW2 := HW3; clear h9 HW3) | (go_at_call 61; refine Calls.mono (BSt.str HW2.out (by decide) _ (by decide)) ?_; rintro e w9 ⟨rfl, h9⟩; clear HW2; have HW2 := Lib.hid h9; clear h9))
            go_roundg (x.size - (st + 3))
            case measure => omega
            case rel => exact ⟨_, _, _, by rw [← hL, hL3], by rw [← hL, hL3]; rfl, by rw [← hL, hL3]; rfl, WR.esc (e := [92, 117, 50, 48, 50, 56]) hx HW.out HT.out HCC.out hiL (by decide) u202_ok8 HW2.out (by rw [part_same]; simp; rfl)⟩
        by_cases h8233 : m = 8233
        · subst h8233
          have hL3 : L = 3 := by rw [hL]; decide
          rw [hL3] at hdec
          rcases Nat.lt_or_eq_of_le hst with hf | hf
          · have hxs : (x.extract st i).size ≤ 1000 := by rw [← data_length, extract_part x st i hst, part_length x st i hi]; omega
            go_wp2_with (first | (go_at_call 60; refine Calls.mono (BSt.byteI HW2.out (by decide) _ (by first | decide | omega)) ?_; rintro e w9 ⟨rfl, h9⟩; clear HW2; have HW2 := Lib.hid h9; clear h9) | (go_at_call 60; refine Calls.mono (BSt.byte HW2.out (by decide) _) ?_; rintro e w9 ⟨rfl, h9⟩; clear HW2; have HW2 := Lib.hid h9; clear h9) | (go_at_call 62; refine Calls.mono (Tryz.utf8_DecodeRuneInString _ _ HTB.out) ?_; rintro e w9 ⟨rfl, h9⟩; rw [hdec]; have HW3 := Lib.hid (HW2.out.go h9); clear HW2; have HW2 := HW3; clear h9 HW3) | (go_at_call 61; refine Calls.mono (BSt.str HW2.out (by decide) _ (by first | with_reducible exact hxs | decide)) ?_; rintro e w9 ⟨rfl, h9⟩; clear HW2; have HW2 := Lib.hid h9; clear h9))
            go_roundg (x.size - (i + 3))
            case measure => omega
            case rel => exact ⟨_, _, _, by rw [← hL, hL3], by rw [← hL, hL3]; rfl, by rw [← hL, hL3]; rfl, WR.esc (e := [92, 117, 50, 48, 50, 57]) hx HW.out HT.out HCC.out hiL (by decide) u202_ok9 HW2.out (by rw [extract_part x st i hst]; simp; rfl)⟩
          · subst hf
            go_wp2_with (first | (go_at_call 60; refine Calls.mono (BSt.byteI HW2.out (by decide) _ (by first | decide | omega)) ?_; rintro e w9 ⟨rfl, h9⟩; clear HW2; have HW2 := Lib.hid h9; clear h9) | (go_at_call 60; refine Calls.mono (BSt.byte HW2.out (by decide) _) ?_; rintro e w9 ⟨rfl, h9⟩; clear HW2; have HW2 := Lib.hid h9; clear h9) | (go_at_call 62; refine Calls.mono (Tryz.utf8_DecodeRuneInString _ _ HTB.out) ?_; rintro e w9 ⟨rfl, h9⟩; rw [hdec]; have HW3 := Lib.hid (HW2.out.go h9); clear HW2; have HW2 := HW3; clear h9 HW3) | (go_at_call 61; refine Calls.mono (BSt.str HW2.out (by decide) _ (by decide)) ?_; rintro e w9 ⟨rfl, h9⟩; clear HW2; have HW2 := Lib.hid h9; clear h9))
            go_roundg (x.size - (st + 3))
            case measure => omega
            case rel => exact ⟨_, _, _, by rw [← hL, hL3], by rw [← hL, hL3]; rfl, by rw [← hL, hL3]; rfl, WR.esc (e := [92, 117, 50, 48, 50, 57]) hx HW.out HT.out HCC.out hiL (by decide) u202_ok9 HW2.out (by rw [part_same]; simp; rfl)⟩
        have n28 : ((m : Int) == 8232) = false := by simp only [beq_eq_false_iff_ne, ne_eq]; omega
        have n29 : ((m : Int) == 8233) = false := by simp only [beq_eq_false_iff_ne, ne_eq]; omega
        have hbig := runeB_big m (by omega)
        by_cases hfd : m = 65533
        · subst hfd
          have hL3 : L = 3 := by rw [hL]; decide
          rw [hL3] at hdec nL1
          go_wp2_with (first | (go_at_call 62; refine Calls.mono (Tryz.utf8_DecodeRuneInString _ _ HTB.out) ?_; rintro e w9 ⟨rfl, h9⟩; rw [hdec]; have h9b := HW.out.buf.go h9; have HWG := Lib.hid h9b; clear h9))
          go_roundg (x.size - (i + 3))
          case measure => omega
          case rel => exact ⟨st, i + (runeB 65533).length, E, by rw [← hL, hL3], rfl, by rw [← hL, hL3]; rfl, WR.go (HW.out.plain HT.out HCC.out hiL hbig) HWG.out⟩
        · have nfd : ((m : Int) == 65533) = false := by simp only [beq_eq_false_iff_ne, ne_eq]; omega
          go_wp2_with (first | (go_at_call 62; refine Calls.mono (Tryz.utf8_DecodeRuneInString _ _ HTB.out) ?_; rintro e w9 ⟨rfl, h9⟩; rw [hdec]; have h9b := HW.out.buf.go h9; have HWG := Lib.hid h9b; clear h9))
          go_roundg (x.size - (i + L))
          case measure => omega
          case rel => exact ⟨st, i + (runeB m).length, E, by rw [hL], rfl, by rw [← hL]; rfl, WR.go (HW.out.plain HT.out HCC.out hiL hbig) HWG.out⟩

end Go.Proofs.YtdabllkphibfmaaGreatDoor
