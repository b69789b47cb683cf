/- Floats as texts: FormatFloat, formatDouble. -/
import Derived.Test.YtpkfdbhpmhahaaaGreatDoorFef
import Derived.Laws.RangeAny
import Derived.Laws.Cover2
import Derived.Laws.Cover1
import Derived.OwnWalk
namespace Go.Proofs.YtpkfdbhpmhahaaaGreatDoor
open Go Go.RowKit Go.Lib Go.Proofs
set_option linter.unusedSimpArgs false
set_option linter.unusedVariables false

/-- Is the character there? -/
def hasR (s : ByteArray) (c : Int) : Nat → Nat → Bool
  | 0, _ => false
  | f + 1, pos => if pos < s.size then (if ((Utf8.decode s pos).1 : Int) = c then true else hasR s c f (pos + (Utf8.decode s pos).2)) else false

theorem decode_pos (s : ByteArray) (pos : Nat) (h : pos < s.size) : 1 ≤ (Utf8.decode s pos).2 := by
  by_cases ha : (s[pos]'h).toNat < 128
  · rw [decode_ascii s pos h ha]; exact Nat.le_refl _
  · exact (decode_high s pos h (by omega)).2

set_option maxRecDepth 100000 in
theorem indexRuneE (s : ByteArray) (hs : s.size ≤ 1000000) (w : World) :
    Calls Tryz.prog 105 #[.string s, .int .i32 69] w (fun e w' => ∃ i : Int, e = .returned (.int .i64 i) ∧ decide (0 ≤ i) = hasR s 69 (s.size + 1) 0 ∧ Below w.heap.size w w') := by
  have hb : ∀ p, Below w.heap.size w (w.iter s p) := fun p => (Below.refl _ _).alloc (Nat.le_refl _) _
  have hrg : ∀ t, Tryz.prog.underlying t = some .string → (Instr.range t (.string s)).run Tryz.prog w = .ok (.pointer (some ⟨w.heap.size, 0, none⟩)) (w.iter s 0) := fun t h => run_range_string w t s h
  have HB := Lib.hid hb
  clear hb
  obtain ⟨R, hR⟩ : ∃ x, x = hasR s 69 (s.size + 1) 0 := ⟨_, rfl⟩
  rw [← hR]
  have HR := Lib.hid hR
  clear hR
  go_enter Tryz.func105, Tryz.ntmps105
  go_upto_block 0 with fail
  go_wp2
  go_loopg [5, 6] s.size (fun m v5 v6 wx => Aside (∃ pos f, m = s.size - pos ∧ s.size + 1 ≤ pos + f ∧ wx = w.iter s pos ∧ R = hasR s 69 f pos))
  case atStart => exact ⟨0, s.size + 1, rfl, by omega, rfl, HR.out⟩
  case round =>
    obtain ⟨pos, f, rfl, hf, rfl, hr⟩ := hrel.out
    clear hrel
    have HRR := Lib.hid hr
    clear hr
    by_cases hlt : pos < s.size
    · have hn := fun ty => run_next_any (P := Tryz.prog) w s pos ty hlt
      have hp1 := decode_pos s pos hlt
      have hr2 : R = if ((Utf8.decode s pos).1 : Int) = 69 then true else hasR s 69 (f - 1) (pos + (Utf8.decode s pos).2) := by
        have hr3 := HRR.out
        cases f with
        | zero => omega
        | succ g =>
          unfold hasR at hr3
          rw [if_pos hlt] at hr3
          exact hr3
      obtain ⟨D, hD⟩ : ∃ x, x = (Utf8.decode s pos).1 := ⟨_, rfl⟩
      obtain ⟨n, hn1⟩ : ∃ x, x = (Utf8.decode s pos).2 := ⟨_, rfl⟩
      rw [← hD, ← hn1] at hn hr2
      rw [← hn1] at hp1
      have HD := Lib.hid (And.intro hD hn1)
      clear hD hn1 HRR
      cases hz : ((D : Int) == 69) with
      | true =>
        have hR : R = true := by
          rw [if_pos (eq_of_beq hz)] at hr2
          exact hr2
        have HRT := Lib.hid hR
        clear hr2 hR
        go_wp2
        go_ret
        exact ⟨_, rfl, by rw [HRT.out]; exact decide_eq_true (by omega), HB.out _⟩
      | false =>
        have hR : R = hasR s 69 (f - 1) (pos + n) := by
          rw [if_neg (by simpa using hz)] at hr2
          exact hr2
        have HRT := Lib.hid hR
        clear hr2 hR
        go_wp2
        go_roundg (s.size - (pos + n))
        case measure => omega
        case rel => exact ⟨pos + n, f - 1, rfl, by omega, rfl, HRT.out⟩
    · have hn := fun ty => run_next_end (P := Tryz.prog) w s pos ty hlt
      have hr2 : R = false := by
        have hr3 := HRR.out
        cases f with
        | zero => exact hr3
        | succ g =>
          unfold hasR at hr3
          rw [if_neg hlt] at hr3
          exact hr3
      have HRT := Lib.hid hr2
      clear hr2 HRR
      go_wp2
      go_ret
      exact ⟨_, rfl, by rw [HRT.out]; rfl, HB.out _⟩

set_option maxRecDepth 100000 in
theorem containsRuneE (s : ByteArray) (hs : s.size ≤ 1000000) (w : World) :
    Calls Tryz.prog 93 #[.string s, .int .i32 69] w (fun e w' => e = .returned (.bool (hasR s 69 (s.size + 1) 0)) ∧ Below w.heap.size w w') := by
  obtain ⟨R, hR⟩ : ∃ x, x = hasR s 69 (s.size + 1) 0 := ⟨_, rfl⟩
  rw [← hR]
  have HR := Lib.hid hR
  clear hR
  go_enter Tryz.func93, Tryz.ntmps93
  go_wp2_with (first | (go_at_call 105; refine (indexRuneE s hs _).mono ?_; rintro e w1 ⟨i, rfl, hi, hb⟩; rw [← HR.out] at hi; have HI := Lib.hid (And.intro hi hb); clear hi hb))
  go_ret
  exact ⟨by rw [← HI.out.1]; rfl, HI.out.2⟩

set_option maxRecDepth 100000 in
theorem indexRuneP (s : ByteArray) (hs : s.size ≤ 1000000) (w : World) :
    Calls Tryz.prog 105 #[.string s, .int .i32 46] w (fun e w' => ∃ i : Int, e = .returned (.int .i64 i) ∧ decide (0 ≤ i) = hasR s 46 (s.size + 1) 0 ∧ Below w.heap.size w w') := by
  have hb : ∀ p, Below w.heap.size w (w.iter s p) := fun p => (Below.refl _ _).alloc (Nat.le_refl _) _
  have hrg : ∀ t, Tryz.prog.underlying t = some .string → (Instr.range t (.string s)).run Tryz.prog w = .ok (.pointer (some ⟨w.heap.size, 0, none⟩)) (w.iter s 0) := fun t h => run_range_string w t s h
  have HB := Lib.hid hb
  clear hb
  obtain ⟨R, hR⟩ : ∃ x, x = hasR s 46 (s.size + 1) 0 := ⟨_, rfl⟩
  rw [← hR]
  have HR := Lib.hid hR
  clear hR
  go_enter Tryz.func105, Tryz.ntmps105
  go_upto_block 0 with fail
  go_wp2
  go_loopg [5, 6] s.size (fun m v5 v6 wx => Aside (∃ pos f, m = s.size - pos ∧ s.size + 1 ≤ pos + f ∧ wx = w.iter s pos ∧ R = hasR s 46 f pos))
  case atStart => exact ⟨0, s.size + 1, rfl, by omega, rfl, HR.out⟩
  case round =>
    obtain ⟨pos, f, rfl, hf, rfl, hr⟩ := hrel.out
    clear hrel
    have HRR := Lib.hid hr
    clear hr
    by_cases hlt : pos < s.size
    · have hn := fun ty => run_next_any (P := Tryz.prog) w s pos ty hlt
      have hp1 := decode_pos s pos hlt
      have hr2 : R = if ((Utf8.decode s pos).1 : Int) = 46 then true else hasR s 46 (f - 1) (pos + (Utf8.decode s pos).2) := by
        have hr3 := HRR.out
        cases f with
        | zero => omega
        | succ g =>
          unfold hasR at hr3
          rw [if_pos hlt] at hr3
          exact hr3
      obtain ⟨D, hD⟩ : ∃ x, x = (Utf8.decode s pos).1 := ⟨_, rfl⟩
      obtain ⟨n, hn1⟩ : ∃ x, x = (Utf8.decode s pos).2 := ⟨_, rfl⟩
      rw [← hD, ← hn1] at hn hr2
      rw [← hn1] at hp1
      have HD := Lib.hid (And.intro hD hn1)
      clear hD hn1 HRR
      cases hz : ((D : Int) == 46) with
      | true =>
        have hR : R = true := by
          rw [if_pos (eq_of_beq hz)] at hr2
          exact hr2
        have HRT := Lib.hid hR
        clear hr2 hR
        go_wp2
        go_ret
        exact ⟨_, rfl, by rw [HRT.out]; exact decide_eq_true (by omega), HB.out _⟩
      | false =>
        have hR : R = hasR s 46 (f - 1) (pos + n) := by
          rw [if_neg (by simpa using hz)] at hr2
          exact hr2
        have HRT := Lib.hid hR
        clear hr2 hR
        go_wp2
        go_roundg (s.size - (pos + n))
        case measure => omega
        case rel => exact ⟨pos + n, f - 1, rfl, by omega, rfl, HRT.out⟩
    · have hn := fun ty => run_next_end (P := Tryz.prog) w s pos ty hlt
      have hr2 : R = false := by
        have hr3 := HRR.out
        cases f with
        | zero => exact hr3
        | succ g =>
          unfold hasR at hr3
          rw [if_neg hlt] at hr3
          exact hr3
      have HRT := Lib.hid hr2
      clear hr2 HRR
      go_wp2
      go_ret
      exact ⟨_, rfl, by rw [HRT.out]; rfl, HB.out _⟩

set_option maxRecDepth 100000 in
theorem containsRuneP (s : ByteArray) (hs : s.size ≤ 1000000) (w : World) :
    Calls Tryz.prog 93 #[.string s, .int .i32 46] w (fun e w' => e = .returned (.bool (hasR s 46 (s.size + 1) 0)) ∧ Below w.heap.size w w') := by
  obtain ⟨R, hR⟩ : ∃ x, x = hasR s 46 (s.size + 1) 0 := ⟨_, rfl⟩
  rw [← hR]
  have HR := Lib.hid hR
  clear hR
  go_enter Tryz.func93, Tryz.ntmps93
  go_wp2_with (first | (go_at_call 105; refine (indexRuneP s hs _).mono ?_; rintro e w1 ⟨i, rfl, hi, hb⟩; rw [← HR.out] at hi; have HI := Lib.hid (And.intro hi hb); clear hi hb))
  go_ret
  exact ⟨by rw [← HI.out.1]; rfl, HI.out.2⟩


/-- Infinite? Not a number? One answer each. -/
theorem isInfP (b : Nat) : ∃ r : Bool, ∀ w, Calls Tryz.prog 90 #[.float .f64 b, .int .i64 1] w (fun e w' => e = .returned (.bool r) ∧ w = w') := by
  apply Exists.intro
  intro w
  go_enter Tryz.func90, Tryz.ntmps90
  go_wp2
  go_ret
  exact ⟨rfl, rfl⟩
theorem isInfM (b : Nat) : ∃ r : Bool, ∀ w, Calls Tryz.prog 90 #[.float .f64 b, .int .i64 (-1)] w (fun e w' => e = .returned (.bool r) ∧ w = w') := by
  obtain ⟨y, hng⟩ : ∃ y : Nat, ∀ W : World, (Op.unary .neg (.float .f64 b)).run Tryz.prog W = .ok (.float .f64 y) W := ⟨_, fun W => rfl⟩
  apply Exists.intro
  intro w
  go_enter Tryz.func90, Tryz.ntmps90
  go_wp2
  go_ret
  exact ⟨rfl, rfl⟩
theorem isNaN (b : Nat) : ∃ r : Bool, ∀ w, Calls Tryz.prog 91 #[.float .f64 b] w (fun e w' => e = .returned (.bool r) ∧ w = w') := by
  apply Exists.intro
  intro w
  go_enter Tryz.func91, Tryz.ntmps91
  go_wp2
  go_ret
  exact ⟨rfl, rfl⟩

set_option maxRecDepth 100000 in
set_option maxHeartbeats 4000000 in
theorem fmtFl0 (b : Nat) (T : List UInt8) (hT : ∀ (B g0 cp0 : Nat) (ob0 : Obj) (w0 w : World), Tabs w → OB B 2 ob0 [] w0 (.slice (some ⟨g0, 0, none⟩) 0 cp0) w → 13 ≤ B → Calls Tryz.prog 118 #[.slice (some ⟨g0, 0, none⟩) 0 cp0, .float .f64 b, .int .u8 71, .int .i64 (-1)] w (FtoaPost B T w0)) (w : World) (hTab : Tabs w) :
    Calls Tryz.prog 104 #[.float .f64 b, .int .u8 71, .int .i64 (-1), .int .i64 64] w (Txt ⟨T.toArray⟩ w) := by
  have HT := Lib.hid hT
  have HTB := Lib.hid hTab
  have hmx : max (3 : Int) 24 = 24 := by decide
  clear hT hTab
  go_enter Tryz.func104, Tryz.ntmps104
  obtain ⟨i0, hi0, hz0, hz1, hz2⟩ := info_parts info5u
  have HOB : Hid (∃ ob0, w.heap[2]? = some ob0) := Lib.hid ⟨_, Array.getElem?_eq_getElem (by have := HTB.out.big; omega)⟩
  have hres : ∀ w1 v', w1.ownsRow w.heap.size 5 1 v' T.length (byteCells T) → (convert 23 9 v').run Tryz.prog w1 = .ok (.string ⟨T.toArray⟩) w1 := fun w1 v' h => conv_own h
  have HRS := Lib.hid hres
  clear hres
  go_wp2_with (first | ((with_reducible refine wpList_at (some 26) ?_); refine wpList_make_own _ rfl (.const (.int .i64 0)) (.tmp 25) 23 rfl w.heap.size 5 i0 _ 1 Tryz.underlying23 hi0 hz0 hz1 .i64 .i64 24 24 rfl rfl rfl (by rw [hz2]; decide) (by unfold maxLen; decide) (Nat.le_refl _) ?_; intro w1 hown hgr; have HOG := Lib.hid (And.intro hown hgr); clear hown hgr) | (go_at_call 118; obtain ⟨ob0, hob⟩ := HOB.out; refine (HT.out w.heap.size w.heap.size 24 ob0 w w1 (HTB.out.kept (fun k hk => HOG.out.2.block k (by have := HTB.out.big; omega) (by simp)) (Nat.le_trans HTB.out.big HOG.out.2.size)) ⟨HOG.out.1, below_grown (Below.refl _ _) HOG.out.2 (fun k e => by cases e) (Nat.le_refl _), HOG.out.2.size, (HOG.out.2.block 2 (by have := HTB.out.big; omega) (by simp)).trans hob, by simp [Value.ownBlock]; have := HTB.out.big; omega⟩ HTB.out.big).mono ?_; rintro e w2 ⟨v', rfl, hown2, hb2⟩; have hcv := HRS.out w2 v' hown2; have HB2 := Lib.hid hb2; clear hown2 hb2))
  go_ret
  exact ⟨rfl, HB2.out⟩

end Go.Proofs.YtpkfdbhpmhahaaaGreatDoor
