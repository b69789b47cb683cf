/- The reference's reader of tokens: its block; gap, over, extNibble, unit. -/
import Derived.Test.YtdabllkphibfmaaGreatDoorRdA
import Derived.Test.YtdabllkphibfmaaGreatDoorFloW
import Derived.Laws.BitsLemmas
import Derived.Deep.QuietTactic
import Derived.BigQuiet
namespace Go.Proofs.YtdabllkphibfmaaGreatDoor
open Go Go.RowKit
set_option linter.unusedSimpArgs false
set_option linter.unusedVariables false

/-- May a number or a word end here? -/
def overAt (s : ByteArray) (q : Nat) : Bool := match s.data.toList.drop q with | [] => true | c :: _ => isTerm c

def OverPost (s : ByteArray) (q : Nat) (w : World) (e : Ending) (w' : World) : Prop := e = .returned (.bool (overAt s q)) ∧ ∃ n, w' = w.drewN n

set_option maxRecDepth 100000 in
set_option maxHeartbeats 1000000 in
theorem over_blank (b : Nat) (s : ByteArray) (q : Nat) (far : Bool) (w : World) (h : RdAt b s q far w) (hl : s.size ≤ 1000000) (hlt : q < s.size) (c : UInt8) (hc : s[q]'hlt = c) (HB : Hid (isBlank c = true))  :
    Calls Tryz.prog 31 #[.pointer (some ⟨b, 0, none⟩)] w fun e w' => e = .returned (.bool true) ∧ ∃ n, w' = w.drewN n := by
  obtain ⟨c0, c1, c2, cf⟩ := cell3 h
  have hge : decide (s.size ≤ q) = false := by simp; omega
  clear h
  go_enter Tryz.func31, Tryz.ntmps31
  go_wp2
  go_quiet ((go_at_call 30; exact Calls.quiet_of_same (blankQ _ _ HB.out _)))
  go_wp2
  go_ret
  exact ⟨rfl, _, rfl⟩

set_option maxRecDepth 100000 in
set_option maxHeartbeats 1000000 in
theorem over_44 (b : Nat) (s : ByteArray) (q : Nat) (far : Bool) (w : World) (h : RdAt b s q far w) (hl : s.size ≤ 1000000) (hlt : q < s.size) (c : UInt8) (hc : s[q]'hlt = c) (HB : Hid (isBlank c = false)) (h1 : ((c.toNat : Int) == 44) = true) :
    Calls Tryz.prog 31 #[.pointer (some ⟨b, 0, none⟩)] w fun e w' => e = .returned (.bool true) ∧ ∃ n, w' = w.drewN n := by
  obtain ⟨c0, c1, c2, cf⟩ := cell3 h
  have hge : decide (s.size ≤ q) = false := by simp; omega
  clear h
  go_enter Tryz.func31, Tryz.ntmps31
  go_wp2
  go_quiet ((go_at_call 30; exact Calls.quiet_of_same (blankQ _ _ HB.out _)))
  go_wp2
  go_ret
  exact ⟨rfl, _, rfl⟩

set_option maxRecDepth 100000 in
set_option maxHeartbeats 1000000 in
theorem over_93 (b : Nat) (s : ByteArray) (q : Nat) (far : Bool) (w : World) (h : RdAt b s q far w) (hl : s.size ≤ 1000000) (hlt : q < s.size) (c : UInt8) (hc : s[q]'hlt = c) (HB : Hid (isBlank c = false)) (h1 : ((c.toNat : Int) == 44) = false) (h2 : ((c.toNat : Int) == 93) = true) :
    Calls Tryz.prog 31 #[.pointer (some ⟨b, 0, none⟩)] w fun e w' => e = .returned (.bool true) ∧ ∃ n, w' = w.drewN n := by
  obtain ⟨c0, c1, c2, cf⟩ := cell3 h
  have hge : decide (s.size ≤ q) = false := by simp; omega
  clear h
  go_enter Tryz.func31, Tryz.ntmps31
  go_wp2
  go_quiet ((go_at_call 30; exact Calls.quiet_of_same (blankQ _ _ HB.out _)))
  go_wp2
  go_ret
  exact ⟨rfl, _, rfl⟩

set_option maxRecDepth 100000 in
set_option maxHeartbeats 1000000 in
theorem over_125 (b : Nat) (s : ByteArray) (q : Nat) (far : Bool) (w : World) (h : RdAt b s q far w) (hl : s.size ≤ 1000000) (hlt : q < s.size) (c : UInt8) (hc : s[q]'hlt = c) (HB : Hid (isBlank c = false)) (h1 : ((c.toNat : Int) == 44) = false) (h2 : ((c.toNat : Int) == 93) = false) (h3 : ((c.toNat : Int) == 125) = true) :
    Calls Tryz.prog 31 #[.pointer (some ⟨b, 0, none⟩)] w fun e w' => e = .returned (.bool true) ∧ ∃ n, w' = w.drewN n := by
  obtain ⟨c0, c1, c2, cf⟩ := cell3 h
  have hge : decide (s.size ≤ q) = false := by simp; omega
  clear h
  go_enter Tryz.func31, Tryz.ntmps31
  go_wp2
  go_quiet ((go_at_call 30; exact Calls.quiet_of_same (blankQ _ _ HB.out _)))
  go_wp2
  go_ret
  exact ⟨rfl, _, rfl⟩

set_option maxRecDepth 100000 in
set_option maxHeartbeats 1000000 in
theorem over_no (b : Nat) (s : ByteArray) (q : Nat) (far : Bool) (w : World) (h : RdAt b s q far w) (hl : s.size ≤ 1000000) (hlt : q < s.size) (c : UInt8) (hc : s[q]'hlt = c) (HB : Hid (isBlank c = false)) (h1 : ((c.toNat : Int) == 44) = false) (h2 : ((c.toNat : Int) == 93) = false) (h3 : ((c.toNat : Int) == 125) = false) :
    Calls Tryz.prog 31 #[.pointer (some ⟨b, 0, none⟩)] w fun e w' => e = .returned (.bool false) ∧ ∃ n, w' = w.drewN n := by
  obtain ⟨c0, c1, c2, cf⟩ := cell3 h
  have hge : decide (s.size ≤ q) = false := by simp; omega
  clear h
  go_enter Tryz.func31, Tryz.ntmps31
  go_wp2
  go_quiet ((go_at_call 30; exact Calls.quiet_of_same (blankQ _ _ HB.out _)))
  go_wp2
  go_ret
  exact ⟨rfl, _, rfl⟩

set_option maxRecDepth 100000 in
theorem over_end (b : Nat) (s : ByteArray) (q : Nat) (far : Bool) (w : World) (h : RdAt b s q far w) (hl : s.size ≤ 1000000) (hlt : ¬ q < s.size) :
    Calls Tryz.prog 31 #[.pointer (some ⟨b, 0, none⟩)] w fun e w' => e = .returned (.bool true) ∧ ∃ n, w' = w.drewN n := by
  obtain ⟨c0, c1, c2, cf⟩ := cell3 h
  have hge : decide (s.size ≤ q) = true := by simp; omega
  clear h
  go_enter Tryz.func31, Tryz.ntmps31
  go_wp2
  go_quiet (fail)
  go_wp2
  go_ret
  exact ⟨rfl, _, rfl⟩

theorem over (b : Nat) (s : ByteArray) (q : Nat) (far : Bool) (w : World) (h : RdAt b s q far w) (hl : s.size ≤ 1000000) :
    Calls Tryz.prog 31 #[.pointer (some ⟨b, 0, none⟩)] w (OverPost s q w) := by
  have fin : ∀ x, overAt s q = x → Calls Tryz.prog 31 #[.pointer (some ⟨b, 0, none⟩)] w (fun e w' => e = .returned (.bool x) ∧ ∃ n, w' = w.drewN n) → Calls Tryz.prog 31 #[.pointer (some ⟨b, 0, none⟩)] w (OverPost s q w) := fun x hx h => by
    subst hx
    exact h
  by_cases hlt : q < s.size
  · have hdrop := str_drop s q hlt
    obtain ⟨c, hc⟩ : ∃ c, s[q]'hlt = c := ⟨_, rfl⟩
    rw [hc] at hdrop
    have key : ∀ k : UInt8, ((c.toNat : Int) == (k.toNat : Int)) = (c == k) := by
      intro k
      rw [Bool.eq_iff_iff]
      simp only [beq_iff_eq]
      constructor
      · intro h
        exact UInt8.toNat_inj.1 (by omega)
      · rintro rfl; rfl
    have k44 : ((c.toNat : Int) == 44) = (c == 44) := key 44
    have k125 : ((c.toNat : Int) == 125) = (c == 125) := key 125
    have k93 : ((c.toNat : Int) == 93) = (c == 93) := key 93
    have hx : overAt s q = (isBlank c || (c == 44) || (c == 93) || (c == 125)) := by
      unfold overAt
      rw [hdrop]
      simp only [isTerm]
      cases isBlank c <;> cases (c == 44) <;> cases (c == 93) <;> cases (c == 125) <;> rfl
    rw [← k44, ← k125, ← k93] at hx
    cases h1 : isBlank c with
    | true => exact fin true (by rw [hx, h1]; rfl) (over_blank b s q far w h hl hlt c hc h1)
    | false =>
      cases h2 : ((c.toNat : Int) == 44) with
      | true => exact fin true (by rw [hx, h1, h2]; rfl) (over_44 b s q far w h hl hlt c hc h1 h2)
      | false =>
        cases h3 : ((c.toNat : Int) == 93) with
        | true => exact fin true (by rw [hx, h1, h2, h3]; rfl) (over_93 b s q far w h hl hlt c hc h1 h2 h3)
        | false =>
          cases h4 : ((c.toNat : Int) == 125) with
          | true => exact fin true (by rw [hx, h1, h2, h3, h4]; rfl) (over_125 b s q far w h hl hlt c hc h1 h2 h3 h4)
          | false => exact fin false (by rw [hx, h1, h2, h3, h4]; rfl) (over_no b s q far w h hl hlt c hc h1 h2 h3 h4)
  · exact fin true (by unfold overAt; rw [List.drop_of_length_le (by show s.size ≤ q; omega)]) (over_end b s q far w h hl hlt)

end Go.Proofs.YtdabllkphibfmaaGreatDoor
