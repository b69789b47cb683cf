/- ParseFloat at a decimal number, as far as the quick exact road goes: its contract. -/
import Derived.Test.YtdabllkphibfmaaGreatDoorFloE
import Derived.Test.YtdabllkphibfmaaGreatDoorFloW
import Derived.WalkLawsBesides
namespace Go.Proofs.YtdabllkphibfmaaGreatDoor
open Go Go.RowKit
set_option linter.unusedSimpArgs false
set_option linter.unusedVariables false

set_option maxRecDepth 100000 in
set_option maxHeartbeats 4000000 in
theorem cpl0 (s : ByteArray) (hn : 0 < s.size) (hs : ((s[0]'hn).toNat : Int) < 65) (hl : s.size ≤ 1000000) (w : World) :
    Calls Tryz.prog 110 #[.string s, .string ⟨#[105, 110, 102, 105, 110, 105, 116, 121]⟩] w fun e w' => e = .returned (.int .i64 0) ∧ w = w' := by
  have hne : (((s[0]'hn).toNat : Int) != 105) = true := by simp only [bne_iff_ne, ne_eq]; omega
  have hne2 : (((s[0]'hn).toNat : Int) != (((⟨#[105, 110, 102, 105, 110, 105, 116, 121]⟩ : ByteArray)[0]'(by decide)).toNat : Int)) = true := hne
  have hnl : ¬ ((65 : Int) ≤ (s[0]'hn).toNat) := by omega
  go_enter Tryz.func110, Tryz.ntmps110
  go_wp2
  refine wp_loop_rounds 1 ?_
  rw [rounds_succ]
  go_wp2
  go_ret
  exact ⟨rfl, rfl⟩

/-- The first byte of a number's body: a digit or a point. -/
theorem body_head {l : List UInt8} {x : Nat × Int × Bool} (h : rfBody l = some x) : ∃ c r, l = c :: r ∧ (c = 46 ∨ isDig c = true) := by
  cases l with
  | nil => simp [rfBody, rfDigits, RS.zero] at h
  | cons c r =>
    refine ⟨c, r, rfl, ?_⟩
    by_cases h1 : c = 46
    · exact .inl h1
    · cases h2 : isDig c with
      | true => exact .inr rfl
      | false => simp [rfBody, rfDigits, h1, h2, RS.zero] at h

theorem byte_extract (s : ByteArray) (h : 1 < s.size) : ∃ h0 : 0 < (s.extract 1 s.size).size, (s.extract 1 s.size)[0]'h0 = s[1]'h := by
  have h0 : 0 < (s.extract 1 s.size).size := by simp [ByteArray.size_extract]; omega
  refine ⟨h0, ?_⟩
  simp [ByteArray.getElem_extract]

set_option maxRecDepth 100000 in
set_option maxHeartbeats 4000000 in
/-- special: no number is one. -/
theorem special0 (s : ByteArray) (hl : s.size ≤ 1000000) (x : Nat × Int × Bool × Bool) (h : rf s.data.toList = some x) (w : World) :
    Calls Tryz.prog 88 #[.string s] w fun e w' => e = .returned (.tuple #[.float .f64 0, .int .i64 0, .bool false]) ∧ w = w' := by
  have hn : 0 < s.size := by
    rcases Nat.eq_zero_or_pos s.size with h0 | h0
    · have : s.data.toList = [] := List.eq_nil_of_length_eq_zero h0
      rw [this] at h; cases h
    · exact h0
  have hz : ((s.size : Int) == 0) = false := by simp only [beq_eq_false_iff_ne, ne_eq]; omega
  have hd0 := str_drop s 0 hn
  rw [List.drop_zero] at hd0
  by_cases h45 : s[0]'hn = 45
  · have hb : ∃ y, rfBody (s.data.toList.drop 1) = some y := by
      rw [hd0] at h
      simp only [rf, h45, if_true] at h
      obtain ⟨y, hy, _⟩ := Option.map_eq_some_iff.1 h
      exact ⟨y, hy⟩
    obtain ⟨y, hy⟩ := hb
    obtain ⟨c, r, hcr, hc⟩ := body_head hy
    have h1 : 1 < s.size := by
      rcases Nat.lt_or_ge 1 s.size with h1 | h1
      · exact h1
      · have h0 : s.data.toList.drop 1 = [] := List.drop_of_length_le (by simpa using h1)
        rw [h0] at hcr; cases hcr
    obtain ⟨hx0, hx1⟩ := byte_extract s h1
    have hc1 : s[1]'h1 = c := by
      rw [str_drop s 1 h1] at hcr
      injection hcr
    have hlt : (((s.extract 1 s.size)[0]'hx0).toNat : Int) < 65 := by
      rw [hx1, hc1]
      rcases hc with rfl | hc
      · decide
      · have := dig_t hc; omega
    have HC := Lib.hid (cpl0 (s.extract 1 s.size) hx0 hlt (by simp [ByteArray.size_extract]; omega))
    have hd : 1 < (s.size : Int) := by omega
    clear hlt hx0 hx1 hc1 hc hcr hy hd0 h
    go_enter Tryz.func88, Tryz.ntmps88
    go_wp2_with (first | (go_at_call 110; refine (HC.out _).mono ?_; rintro e w1 ⟨rfl, rfl⟩))
    go_ret3
    exact ⟨rfl, rfl⟩
  · have hdg : s[0]'hn = 46 ∨ isDig (s[0]'hn) = true := by
      rw [hd0] at h
      simp only [rf, h45, if_false] at h
      obtain ⟨y, hy, _⟩ := Option.map_eq_some_iff.1 h
      obtain ⟨c, r, hcr, hc⟩ := body_head hy
      injection hcr with h1 h2
      rw [h1]
      exact hc
    obtain ⟨c, hc⟩ : ∃ c, s[0]'hn = c := ⟨_, rfl⟩
    rw [hc] at hdg h45
    have hr : 46 ≤ (c.toNat : Int) ∧ (c.toNat : Int) ≤ 57 := by
      rcases hdg with rfl | hdg
      · decide
      · have := dig_t hdg; omega
    have m43 : ((c.toNat : Int) == 43) = false := by simp only [beq_eq_false_iff_ne, ne_eq]; omega
    have m45 : ((c.toNat : Int) == 45) = false := by simp only [beq_eq_false_iff_ne, ne_eq]; omega
    have m105 : ((c.toNat : Int) == 105) = false := by simp only [beq_eq_false_iff_ne, ne_eq]; omega
    have m73 : ((c.toNat : Int) == 73) = false := by simp only [beq_eq_false_iff_ne, ne_eq]; omega
    have m110 : ((c.toNat : Int) == 110) = false := by simp only [beq_eq_false_iff_ne, ne_eq]; omega
    have m78 : ((c.toNat : Int) == 78) = false := by simp only [beq_eq_false_iff_ne, ne_eq]; omega
    clear hr hdg h45 hd0 h
    go_enter Tryz.func88, Tryz.ntmps88
    go_wp2
    go_ret3
    exact ⟨rfl, rfl⟩

end Go.Proofs.YtdabllkphibfmaaGreatDoor
