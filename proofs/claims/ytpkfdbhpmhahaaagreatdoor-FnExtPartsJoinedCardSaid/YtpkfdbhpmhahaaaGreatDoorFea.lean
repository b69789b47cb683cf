/- Floats as decimals: the small functions under it. -/
import Derived.Test.YtpkfdbhpmhahaaaGreatDoorGc
import Derived.OpenShut
import Derived.Laws.BitsAllLaws
namespace Go.Proofs.YtpkfdbhpmhahaaaGreatDoor
open Go Go.RowKit
set_option linter.unusedSimpArgs false
set_option linter.unusedVariables false

theorem log10p (x : Int) (h : -2000 ≤ x ∧ x ≤ 2000) (w : World) : Calls Tryz.prog 119 #[.int .i64 x] w fun e w' => e = .returned (.int .i64 (x * 78913 / 262144)) ∧ w = w' := by
  go_enter Tryz.func119, Tryz.ntmps119
  go_wp2
  go_ret
  exact ⟨rfl, rfl⟩
theorem skewp (x : Int) (h : -2000 ≤ x ∧ x ≤ 2000) (w : World) : Calls Tryz.prog 156 #[.int .i64 x] w fun e w' => e = .returned (.int .i64 ((x * 631305 - 261663) / 2097152)) ∧ w = w' := by
  go_enter Tryz.func156, Tryz.ntmps156
  go_wp2
  go_ret
  exact ⟨rfl, rfl⟩
theorem log2p (x : Int) (h : -1000 ≤ x ∧ x ≤ 1000) (w : World) : Calls Tryz.prog 158 #[.int .i64 x] w fun e w' => e = .returned (.int .i64 (x * 108853 / 32768)) ∧ w = w' := by
  go_enter Tryz.func158, Tryz.ntmps158
  go_wp2
  go_ret
  exact ⟨rfl, rfl⟩

theorem boolU (b : Bool) (w : World) : Calls Tryz.prog 174 #[.bool b] w fun e w' => e = .returned (.int .u64 (if b then 1 else 0)) ∧ w = w' := by
  cases b
  · go_enter Tryz.func174, Tryz.ntmps174
    go_wp2
    go_ret
    exact ⟨rfl, rfl⟩
  · go_enter Tryz.func174, Tryz.ntmps174
    go_wp2
    go_ret
    exact ⟨rfl, rfl⟩

theorem boolU' (b : Bool) (w : World) : Calls Tryz.prog 174 #[.bool b] w fun e w' => e = .returned (.int .u64 (if b then 1 else 0)) ∧ w' = w := (boolU b w).mono fun _ _ ⟨h1, h2⟩ => ⟨h1, h2.symm⟩

/-- What prescale leaves. -/
def PrePost (g : Nat) (hi lo s : Int) (w : World) (e : Ending) (w' : World) : Prop := w'.heap[g]? = some (.cells #[.int .u64 hi, .int .u64 lo, .int .i64 s] 219 (0, 0)) ∧ Below g w w' ∧ e = .returned (.tuple #[])

/-- prescale. -/
theorem prescale (g : Nat) (a b c : Value) (e p lp : Int) (i : Nat) (hi lo S : Int) (w : World) (he : -100000 ≤ e ∧ e ≤ 100000) (hlp : -100000 ≤ lp ∧ lp ≤ 100000) (hp : p = (i : Int) - 348) (hi696 : i < 696) (hb : w.heap[g]? = some (.cells #[a, b, c] 219 (0, 0)))
    (h0 : w.cell? ⟨11, i * 2, none⟩ = some (.int .u64 hi)) (h1 : w.cell? ⟨11, i * 2 + 1, none⟩ = some (.int .u64 lo)) (hg : 11 < g) (hS : S = -(e + lp + 3)) :
    Calls Tryz.prog 157 #[.pointer (some ⟨g, 0, none⟩), .int .i64 e, .int .i64 p, .int .i64 lp] w (PrePost g hi lo S w) := by
  subst hp hS
  obtain ⟨d0, d1, d2, df⟩ := cell3 hb
  have hne : 11 ≠ g := by omega
  have HB := Lib.hid hb
  clear hb
  go_enter Tryz.func157, Tryz.ntmps157
  go_wp2
  go_end0
  refine ⟨?_, (((Below.refl g w).setCell (Nat.le_refl _) _).setCell (Nat.le_refl _) _).setCell (Nat.le_refl _) _, rfl⟩
  rw [heap_set (heap_set (heap_set HB.out))]
  rfl

theorem andI63 (s : Nat) (h : s < 64) : bits BinOp.and IntKind.i64 (s : Nat) 63 = (s : Nat) := by
  have all : ∀ s : _root_.Fin 64, bits BinOp.and IntKind.i64 ((s.val : Nat) : Int) 63 = ((s.val : Nat) : Int) := by decide
  exact all ⟨s, h⟩

def InU (u : Int) : Prop := 0 ≤ u ∧ u ≤ 18446744073709551615

theorem u64_bits (op : BinOp) (a b : Int) : InU (bits op .u64 a b) := by
  have := wf_bits op .u64 a b
  simp [Lit.wf, IntKind.min, IntKind.max, IntKind.signed, IntKind.bits] at this
  unfold InU
  omega

/-- A number is given back; the world has drawn. -/
def RetI (k : IntKind) (u : Int) (w : World) (e : Ending) (w' : World) : Prop := e = .returned (.int k u) ∧ ∃ n, w' = w.drewN n

set_option maxHeartbeats 4000000 in
/-- uscale: one answer for its number and its scale. -/
theorem uscale (x hi lo : Nat) (s : Nat) (hx : x < 18446744073709551616) (hhi : hi < 18446744073709551616) (hlo : lo < 18446744073709551616) (hs : s < 64) :
    ∃ u : Int, InU u ∧ ∀ (g : Nat) (w : World), w.heap[g]? = some (.cells #[.int .u64 hi, .int .u64 lo, .int .i64 s] 219 (0, 0)) → Calls Tryz.prog 159 #[.int .u64 x, .pointer (some ⟨g, 0, none⟩)] w (RetI .u64 u w) := by
  have h63 := andI63 s hs
  by_cases c1 : (IntKind.u64.wrap ((x : Int) * hi / 18446744073709551616 / 2 ^ s * 2 ^ s) != (x : Int) * hi / 18446744073709551616) = true
  · apply Exists.intro
    refine ⟨?_, fun g w hb => ?_⟩
    rotate_left
    obtain ⟨d0, d1, d2, df⟩ := cell3 hb
    clear hb
    go_enter Tryz.func159, Tryz.ntmps159
    go_wp2_with (first | (go_at_call 173; refine (Tryz.bits_Mul64 _ _ (by assumption) (by assumption) _).mono ?_; rintro e w' ⟨rfl, rfl⟩) | (go_at_call 174; refine (boolU _ _).mono ?_; rintro e w' ⟨rfl, rfl⟩))
    go_ret
    exact ⟨rfl, 0, rfl⟩
    exact u64_bits _ _ _
  · have c1' : (IntKind.u64.wrap ((x : Int) * hi / 18446744073709551616 / 2 ^ s * 2 ^ s) != (x : Int) * hi / 18446744073709551616) = false := by simpa using c1
    clear c1
    by_cases c2 : (x : Int) * hi % 18446744073709551616 < (x : Int) * lo / 18446744073709551616
    · have c3 := decide_eq_true c2
      by_cases c4 : (1 : Int) < IntKind.u64.wrap ((x : Int) * hi % 18446744073709551616 - (x : Int) * lo / 18446744073709551616)
      · have c5 := decide_eq_true c4
        clear c4 c2
        apply Exists.intro
        refine ⟨?_, fun g w hb => ?_⟩
        rotate_left
        obtain ⟨d0, d1, d2, df⟩ := cell3 hb
        clear hb
        go_enter Tryz.func159, Tryz.ntmps159
        go_wp2_with (first | (go_at_call 173; refine (Tryz.bits_Mul64 _ _ (by assumption) (by assumption) _).mono ?_; rintro e w' ⟨rfl, rfl⟩) | (go_at_call 174; refine (boolU _ _).mono ?_; rintro e w' ⟨rfl, rfl⟩))
        go_quiet ((go_at_call 174; exact Calls.quiet_of_same (boolU' _ _)))
        go_wp2
        go_ret
        exact ⟨rfl, _, rfl⟩
        exact u64_bits _ _ _
      · have c5 := decide_eq_false c4
        clear c4 c2
        apply Exists.intro
        refine ⟨?_, fun g w hb => ?_⟩
        rotate_left
        obtain ⟨d0, d1, d2, df⟩ := cell3 hb
        clear hb
        go_enter Tryz.func159, Tryz.ntmps159
        go_wp2_with (first | (go_at_call 173; refine (Tryz.bits_Mul64 _ _ (by assumption) (by assumption) _).mono ?_; rintro e w' ⟨rfl, rfl⟩) | (go_at_call 174; refine (boolU _ _).mono ?_; rintro e w' ⟨rfl, rfl⟩))
        go_quiet ((go_at_call 174; exact Calls.quiet_of_same (boolU' _ _)))
        go_wp2
        go_ret
        exact ⟨rfl, _, rfl⟩
        exact u64_bits _ _ _
    · have c3 := decide_eq_false c2
      by_cases c4 : (1 : Int) < IntKind.u64.wrap ((x : Int) * hi % 18446744073709551616 - (x : Int) * lo / 18446744073709551616)
      · have c5 := decide_eq_true c4
        clear c4 c2
        apply Exists.intro
        refine ⟨?_, fun g w hb => ?_⟩
        rotate_left
        obtain ⟨d0, d1, d2, df⟩ := cell3 hb
        clear hb
        go_enter Tryz.func159, Tryz.ntmps159
        go_wp2_with (first | (go_at_call 173; refine (Tryz.bits_Mul64 _ _ (by assumption) (by assumption) _).mono ?_; rintro e w' ⟨rfl, rfl⟩) | (go_at_call 174; refine (boolU _ _).mono ?_; rintro e w' ⟨rfl, rfl⟩))
        go_quiet ((go_at_call 174; exact Calls.quiet_of_same (boolU' _ _)))
        go_wp2
        go_ret
        exact ⟨rfl, _, rfl⟩
        exact u64_bits _ _ _
      · have c5 := decide_eq_false c4
        clear c4 c2
        apply Exists.intro
        refine ⟨?_, fun g w hb => ?_⟩
        rotate_left
        obtain ⟨d0, d1, d2, df⟩ := cell3 hb
        clear hb
        go_enter Tryz.func159, Tryz.ntmps159
        go_wp2_with (first | (go_at_call 173; refine (Tryz.bits_Mul64 _ _ (by assumption) (by assumption) _).mono ?_; rintro e w' ⟨rfl, rfl⟩) | (go_at_call 174; refine (boolU _ _).mono ?_; rintro e w' ⟨rfl, rfl⟩))
        go_quiet ((go_at_call 174; exact Calls.quiet_of_same (boolU' _ _)))
        go_wp2
        go_ret
        exact ⟨rfl, _, rfl⟩
        exact u64_bits _ _ _

theorem uscaleI (x : Int) (hx : InU x) (hi lo : Nat) (S : Int) (hhi : hi < 18446744073709551616) (hlo : lo < 18446744073709551616) (hS : 0 ≤ S ∧ S < 64) :
    ∃ u : Int, InU u ∧ ∀ (g : Nat) (w : World), w.heap[g]? = some (.cells #[.int .u64 hi, .int .u64 lo, .int .i64 S] 219 (0, 0)) → Calls Tryz.prog 159 #[.int .u64 x, .pointer (some ⟨g, 0, none⟩)] w (RetI .u64 u w) := by
  unfold InU at hx
  obtain ⟨n, rfl⟩ : ∃ n : Nat, x = n := ⟨x.toNat, by omega⟩
  obtain ⟨s, rfl⟩ : ∃ s : Nat, S = s := ⟨S.toNat, by omega⟩
  exact uscale n hi lo s (by omega) hhi hlo (by omega)


theorem wrap_u (x : Int) : InU (IntKind.u64.wrap x) := by
  unfold InU IntKind.wrap
  simp [IntKind.signed, IntKind.bits]
  omega
def nudF (u k : Int) : Int := IntKind.u64.wrap (u + IntKind.u64.wrap k)
theorem nudF_in (u k : Int) : InU (nudF u k) := wrap_u _
theorem nudC (u k : Int) (w : World) : Calls Tryz.prog 160 #[.int .u64 u, .int .i64 k] w fun e w' => e = .returned (.int .u64 (nudF u k)) ∧ w = w' := by
  unfold nudF
  go_enter Tryz.func160, Tryz.ntmps160
  go_wp2
  go_ret
  exact ⟨rfl, rfl⟩
def ceilF (u : Int) : Int := IntKind.u64.wrap (u + 3) / 4
theorem ceilF_in (u : Int) : InU (ceilF u) := by have := wrap_u (u + 3); unfold InU ceilF at *; omega
theorem ceilC (u : Int) (w : World) : Calls Tryz.prog 161 #[.int .u64 u] w fun e w' => e = .returned (.int .u64 (ceilF u)) ∧ w = w' := by
  unfold ceilF
  go_enter Tryz.func161, Tryz.ntmps161
  go_wp2
  go_ret
  exact ⟨rfl, rfl⟩
def floorF (u : Int) : Int := u / 4
theorem floorF_in (u : Int) (h : InU u) : InU (floorF u) := by unfold InU floorF at *; omega
theorem floorC (u : Int) (h : InU u) (w : World) : Calls Tryz.prog 162 #[.int .u64 u] w fun e w' => e = .returned (.int .u64 (floorF u)) ∧ w = w' := by
  unfold InU at h
  unfold floorF
  go_enter Tryz.func162, Tryz.ntmps162
  go_wp2
  go_ret
  exact ⟨rfl, rfl⟩
theorem roundU (u : Int) (hu : InU u) : ∃ r : Int, InU r ∧ ∀ w, Calls Tryz.prog 163 #[.int .u64 u] w fun e w' => e = .returned (.int .u64 r) ∧ w = w' := by
  have hu2 := hu
  unfold InU at hu2
  apply Exists.intro
  refine ⟨?_, fun w => ?_⟩
  rotate_left
  go_enter Tryz.func163, Tryz.ntmps163
  go_wp2
  go_ret
  exact ⟨rfl, rfl⟩
  have h1 := wrap_u (IntKind.u64.wrap (u + 1) + bits BinOp.and IntKind.u64 (u / 4) 1)
  unfold InU at h1 ⊢
  omega
/-- numDigits, at 0 too. -/
theorem numDig (u : Nat) (h2 : u < 18446744073709551616) (w : World) (hT : Tabs w) : Calls Tryz.prog 110 #[.int .u64 u] w fun e w' => e = .returned (.int .i64 ((if u = 0 then 0 else Lib.nDigits u : Nat) : Int)) ∧ w' = w := by
  by_cases h0 : u = 0
  · subst h0
    have hc := hT.pow.cell gPow10 0 (by decide)
    have hb := Tryz.bits_Len64 0 w (by decide) (by decide)
    have hbl : Lib.bitLen (0 : Int).toNat = 0 := by decide
    rw [hbl] at hb
    clear hbl
    go_enter Tryz.func110, Tryz.ntmps110
    go_wp2_with (first | (go_at_call 120; refine hb.mono ?_; rintro e w' ⟨rfl, rfl⟩) | (go_at_call 119; refine (log10p _ (by decide) _).mono ?_; rintro e w' ⟨rfl, rfl⟩) | (go_at_call 121; refine (Tryz.internal_strconv_bool2_int _ _).mono ?_; rintro e w' ⟨rfl, rfl⟩))
    go_ret
    exact ⟨rfl, rfl⟩
  · rw [if_neg h0]
    exact Tryz.internal_strconv_numDigits u (by omega) h2 w hT.pow

end Go.Proofs.YtpkfdbhpmhahaaaGreatDoor
