/- The reference's reader of tokens: its block; gap, over, extNibble, unit. -/
import Derived.Test.YtdabllkphibfmaaGreatDoorAnyT
import Derived.Test.YtdabllkphibfmaaGreatDoorFloW
import Derived.Laws.BitsLemmas
import Derived.Deep.QuietTactic
import Derived.BigQuiet
namespace Go.Proofs.YtdabllkphibfmaaGreatDoor
open Go Go.RowKit
set_option linter.unusedSimpArgs false
set_option linter.unusedVariables false

/-- The reader of s stands at q; far: something was met of which nothing is said. -/
def RdAt (b : Nat) (s : ByteArray) (q : Nat) (far : Bool) (w : World) : Prop := w.heap[b]? = some (.cells #[.string s, .int .i64 (q : Nat), .bool far] 51 (0, 0))

theorem RdAt.drewN {b : Nat} {s : ByteArray} {q : Nat} {far : Bool} {w : World} (h : RdAt b s q far w) (n : Nat) : RdAt b s q far (w.drewN n) := h
theorem RdAt.go {b : Nat} {s : ByteArray} {q : Nat} {far : Bool} {w : World} (h : RdAt b s q far w) (q' : Nat) : RdAt b s q' far (w.setCell ⟨b, 1, none⟩ (.int .i64 (q' : Nat))) := by
  unfold RdAt at h ⊢
  rw [heap_set h]
  rfl
theorem RdAt.setFar {b : Nat} {s : ByteArray} {q : Nat} {far : Bool} {w : World} (h : RdAt b s q far w) : RdAt b s q true (w.setCell ⟨b, 2, none⟩ (.bool true)) := by
  unfold RdAt at h ⊢
  rw [heap_set h]
  rfl

/-- Only the reader's block has turned. -/
abbrev Fb1 (b : Nat) (w w' : World) : Prop := Fr (fun k => k = b) w w'

set_option maxRecDepth 100000 in
theorem blankB (c : UInt8) (w : World) : Calls Tryz.prog 30 #[.int .u8 (c.toNat : Int)] w fun e w' => e = .returned (.bool (isBlank c)) ∧ w = w' := by
  have key : ∀ k : UInt8, ((c.toNat : Int) == (k.toNat : Int)) = (c == k) := by
    intro k
    rw [Bool.eq_iff_iff]
    simp only [beq_iff_eq]
    constructor
    · intro h
      exact UInt8.toNat_inj.1 (by omega)
    · rintro rfl; rfl
  have k32 : ((c.toNat : Int) == 32) = (c == 32) := key 32
  have k9 : ((c.toNat : Int) == 9) = (c == 9) := key 9
  have k10 : ((c.toNat : Int) == 10) = (c == 10) := key 10
  have k13 : ((c.toNat : Int) == 13) = (c == 13) := key 13
  have ht : isBlank c = (c == 32 || c == 9 || c == 13 || c == 10) := rfl
  rw [ht, ← k32, ← k9, ← k10, ← k13]
  clear ht key k32 k9 k10 k13
  cases h1 : ((c.toNat : Int) == 32) <;> cases h2 : ((c.toNat : Int) == 9) <;> cases h3 : ((c.toNat : Int) == 10) <;> cases h4 : ((c.toNat : Int) == 13) <;>
  · go_enter Tryz.func30, Tryz.ntmps30
    go_wp2
    go_ret
    exact ⟨rfl, rfl⟩

theorem blankQ (c : UInt8) (x : Bool) (hx : isBlank c = x) (w : World) : Calls Tryz.prog 30 #[.int .u8 (c.toNat : Int)] w fun e w' => e = .returned (.bool x) ∧ w' = w := (blankB c w).mono fun _ _ ⟨h1, h2⟩ => ⟨hx ▸ h1, h2.symm⟩

/-- A call that only reads, behind a region that only read. -/
theorem quietMore {f : FuncId} {args : Array Value} {w : World} {a n : Nat} {v : Value} (h : ∀ W : World, Calls Tryz.prog f args W fun e w' => e = .returned v ∧ w' = W) :
    Calls Tryz.prog f args (w.drewN (a + n)) fun e w2 => e = .returned v ∧ ∃ m, w2 = w.drewN (a + m) :=
  (h _).mono fun _ _ ⟨he, hm⟩ => ⟨he, n, hm⟩

/-- Behind blanks. -/
def GapPost (b : Nat) (s : ByteArray) (q : Nat) (far : Bool) (w : World) (e : Ending) (w' : World) : Prop :=
  ∃ q' : Nat, q ≤ q' ∧ q' ≤ s.size ∧ s.data.toList.drop q' = (s.data.toList.drop q).dropWhile isBlank ∧ e = .returned (.bool (decide (q' < s.size))) ∧ RdAt b s q' far w' ∧ Fb1 b w w'

def GapR (b : Nat) (s : ByteArray) (q : Nat) (far : Bool) (w : World) (m : Nat) (wx : World) : Prop :=
  ∃ i : Nat, m = s.size - i ∧ q ≤ i ∧ i ≤ s.size ∧ (s.data.toList.drop i).dropWhile isBlank = (s.data.toList.drop q).dropWhile isBlank ∧ RdAt b s i far wx ∧ Fb1 b w wx

theorem drop_end (s : ByteArray) : s.data.toList.drop s.size = [] := List.drop_of_length_le (Nat.le_refl _)

set_option maxRecDepth 100000 in
set_option maxHeartbeats 4000000 in
theorem gap (b : Nat) (s : ByteArray) (q : Nat) (far : Bool) (w : World) (h : RdAt b s q far w) (hq : q ≤ s.size) (hl : s.size ≤ 1000000) :
    Calls Tryz.prog 16 #[.pointer (some ⟨b, 0, none⟩)] w (GapPost b s q far w) := by
  have H := Lib.hid h
  clear h
  go_enter Tryz.func16, Tryz.ntmps16
  go_wp2
  go_loopg [] (s.size - q) (fun m wx => Aside (GapR b s q far w m wx))
  case atStart => exact ⟨q, rfl, Nat.le_refl _, hq, rfl, H.out, Fr.refl _ _⟩
  case round =>
    obtain ⟨i, rfl, hqi, hi, hd, hR, hf⟩ := hrel.out
    clear hrel
    obtain ⟨c0, c1, c2, cf⟩ := cell3 hR
    have HR := Lib.hid hR
    have HF := Lib.hid hf
    have HD := Lib.hid hd
    clear hR hf hd
    by_cases hlt : i < s.size
    · have hdrop := str_drop s i hlt
      obtain ⟨c, hc⟩ : ∃ c, s[i]'hlt = c := ⟨_, rfl⟩
      rw [hc] at hdrop
      have HDR := Lib.hid hdrop
      clear hdrop
      cases hb : isBlank c with
      | true =>
        as_aux_lemma =>
        have HX : Hid ((s.data.toList.drop (i + 1)).dropWhile isBlank = (s.data.toList.drop q).dropWhile isBlank) := Lib.hid (by
          rw [← HD.out, HDR.out, List.dropWhile_cons, if_pos hb])
        have HB := Lib.hid hb
        clear hb
        go_wp2
        go_quiet ((go_at_call 30; exact Calls.quiet_of_same (blankQ _ _ HB.out _)))
        go_wp2
        go_roundg (s.size - (i + 1))
        case measure => omega
        case rel => exact ⟨i + 1, rfl, by omega, by omega, HX.out, (HR.out.drewN _).go (i + 1), (HF.out.drewN _).setCell (.inl rfl) _⟩
      | false =>
        as_aux_lemma =>
        have HX : Hid (s.data.toList.drop i = (s.data.toList.drop q).dropWhile isBlank) := Lib.hid (by
          rw [← HD.out, HDR.out, List.dropWhile_cons, if_neg (by simp [hb])])
        have HB := Lib.hid hb
        have hdt : decide (i < s.size) = true := decide_eq_true hlt
        clear hb
        go_wp2
        go_quiet ((go_at_call 30; exact Calls.quiet_of_same (blankQ _ _ HB.out _)))
        go_wp2
        go_quiet (fail)
        go_wp2
        go_ret
        exact ⟨i, hqi, hi, HX.out, by rw [decide_eq_true hlt]; rfl, (HR.out.drewN _).drewN _, (HF.out.drewN _).drewN _⟩
    · have hie : i = s.size := by omega
      subst hie
      as_aux_lemma =>
      have HX : Hid (s.data.toList.drop s.size = (s.data.toList.drop q).dropWhile isBlank) := Lib.hid (by
        rw [← HD.out, drop_end]; rfl)
      go_wp2
      go_quiet (fail)
      go_wp2
      go_quiet (fail)
      go_wp2
      go_ret
      exact ⟨s.size, hqi, Nat.le_refl _, HX.out, by rw [decide_eq_false (Nat.lt_irrefl _)]; rfl, (HR.out.drewN _).drewN _, (HF.out.drewN _).drewN _⟩


end Go.Proofs.YtdabllkphibfmaaGreatDoor
