/- ParseFloat at a decimal number, as far as the quick exact road goes: its contract. -/
import Derived.Test.YtdabllkphibfmaaGreatDoorFloF
namespace Go.Proofs.YtdabllkphibfmaaGreatDoor
open Go Go.RowKit
set_option linter.unusedSimpArgs false
set_option linter.unusedVariables false

/-- The sign's bit. -/
def sgnF (neg : Bool) : Nat := if neg then 9223372036854775808 else 0

theorem bool2u (b : Bool) (w : World) : Calls Tryz.prog 97 #[.bool b] w fun e w' => e = .returned (.int .u64 (if b then 1 else 0)) ∧ w = w' := by
  cases b
  all_goals
    go_enter Tryz.func97, Tryz.ntmps97
    go_wp2
    go_ret
    exact ⟨rfl, rfl⟩

theorem fromBits (b : Nat) (w : World) : (Extern.MathFloatBits.float64frombits #[.int .u64 b]).run Tryz.prog w = .ok (.float .f64 b) w := by kernel_rfl

theorem or_sign : bits .or .u64 9223372036854775808 0 = ((sgnF true : Nat) : Int) := by decide +kernel
theorem or_zero : bits .or .u64 0 0 = ((sgnF false : Nat) : Int) := by decide +kernel

def AfPost (b : Nat) (n : Nat) (w : World) (e : Ending) (w' : World) : Prop :=
  e = .returned (.tuple #[.float .f64 b, .int .i64 n, .nilIface]) ∧ ∃ k, w' = w.drewN k

set_option maxRecDepth 1000000 in
set_option maxHeartbeats 40000000 in
/-- Nought. -/
theorem atof64_zero (s : ByteArray) (hal : ∀ c ∈ s.data.toList, isNumC c = true) (hl : s.size ≤ 1000000) (w0 : World) (hf : FloVars w0) (w : World) (ho : Old w0 w) (e : Int) (neg tr : Bool) (h : rf s.data.toList = some (0, e, neg, tr)) :
    Calls Tryz.prog 78 #[.string s] w (AfPost (sgnF neg) s.size w) := by
  have h98 := @run_callFunc_extern Tryz.prog 98 _ Extern.MathFloatBits.float64frombits Tryz.func98 (by kernel_rfl) (by kernel_rfl) (by kernel_rfl) (by kernel_rfl)
  have h7 := ho.cell hf.opt
  have HS := Lib.hid (special0 s hl _ h)
  have HR := Lib.hid (fun w => readFloat s hal hl w _ _ _ _ h)
  clear hf ho hal h
  cases neg with
  | true =>
    have hfb : ∀ w, (Extern.MathFloatBits.float64frombits #[.int .u64 (bits .or .u64 9223372036854775808 0)]).run Tryz.prog w = .ok (.float .f64 (sgnF true)) w := fun w => by rw [or_sign]; exact fromBits (sgnF true) w
    go_enter Tryz.func78, Tryz.ntmps78
    go_wp2_with (first
      | (go_at_call 88; refine (HS.out _).mono ?_; rintro e w1 ⟨rfl, rfl⟩)
      | (go_at_call 89; refine (HR.out _).mono ?_; rintro e w1 ⟨rfl, rfl⟩)
      | (go_at_call 97; refine (bool2u _ _).mono ?_; rintro e w1 ⟨rfl, rfl⟩))
    go_ret3
    exact ⟨rfl, 0, rfl⟩
  | false =>
    have hfb : ∀ w, (Extern.MathFloatBits.float64frombits #[.int .u64 (bits .or .u64 0 0)]).run Tryz.prog w = .ok (.float .f64 (sgnF false)) w := fun w => by rw [or_zero]; exact fromBits (sgnF false) w
    go_enter Tryz.func78, Tryz.ntmps78
    go_wp2_with (first
      | (go_at_call 88; refine (HS.out _).mono ?_; rintro e w1 ⟨rfl, rfl⟩)
      | (go_at_call 89; refine (HR.out _).mono ?_; rintro e w1 ⟨rfl, rfl⟩)
      | (go_at_call 97; refine (bool2u _ _).mono ?_; rintro e w1 ⟨rfl, rfl⟩))
    go_ret3
    exact ⟨rfl, 0, rfl⟩

set_option maxRecDepth 1000000 in
set_option maxHeartbeats 40000000 in
/-- The exact road. -/
theorem atof64_exact (s : ByteArray) (hal : ∀ c ∈ s.data.toList, isNumC c = true) (hl : s.size ≤ 1000000) (w0 : World) (hf : FloVars w0) (w : World) (ho : Old w0 w) (m : Nat) (hm0 : m ≠ 0) (hm : m < 18446744073709551616) (e : Int) (he1 : -345 ≤ e) (he2 : e ≤ 310) (neg : Bool) (b : Nat) (h : rf s.data.toList = some (m, e, neg, false)) (hx : exactF m e neg = some b) :
    Calls Tryz.prog 78 #[.string s] w (AfPost b s.size w) := by
  have h7 := ho.cell hf.opt
  have HS := Lib.hid (special0 s hl _ h)
  have HR := Lib.hid (fun w => readFloat s hal hl w _ _ _ _ h)
  have hex : Calls Tryz.prog 99 #[.int .u64 m, .int .i64 e, .bool neg] w fun e' w' => e' = .returned (.tuple #[.float .f64 b, .bool true]) ∧ ∃ k, w' = w.drewN k := by
    refine (atofExact w0 hf m hm e ⟨by omega, by omega⟩ neg w ho).mono ?_
    rintro e' w' ⟨b', ok, rfl, hr, k, rfl⟩
    rw [hx] at hr
    cases ok with
    | false => cases hr
    | true =>
      have hr2 := Option.some.inj hr
      subst hr2
      exact ⟨rfl, k, rfl⟩
  have HX := Lib.hid hex
  have nm0 : ((m : Int) == 0) = false := by simp only [beq_eq_false_iff_ne, ne_eq]; omega
  clear hf ho hal h hm hx hm0 hex
  cases neg
  all_goals
    go_enter Tryz.func78, Tryz.ntmps78
    go_wp2_with (first
      | (go_at_call 88; refine (HS.out _).mono ?_; rintro e w1 ⟨rfl, rfl⟩)
      | (go_at_call 89; refine (HR.out _).mono ?_; rintro e w1 ⟨rfl, rfl⟩)
      | (go_at_call 97; refine (bool2u _ _).mono ?_; rintro e w1 ⟨rfl, rfl⟩)
      | (go_at_call 99; refine (HX.out).mono ?_; rintro e w1 ⟨rfl, k, rfl⟩))
    go_ret3
    exact ⟨rfl, k, rfl⟩

theorem pfPrefix (s : ByteArray) (b : Nat) (w : World) (h : Calls Tryz.prog 78 #[.string s] w (AfPost b s.size w)) : Calls Tryz.prog 55 #[.string s, .int .i64 64] w (AfPost b s.size w) := by
  have H := Lib.hid h
  clear h
  go_enter Tryz.func55, Tryz.ntmps55
  go_wp2_with (first | (go_at_call 78; refine (H.out).mono ?_; rintro e w1 ⟨rfl, k, rfl⟩))
  go_ret3
  exact ⟨rfl, k, rfl⟩

def Pf2Post (b : Nat) (w : World) (e : Ending) (w' : World) : Prop :=
  e = .returned (.tuple #[.float .f64 b, .nilIface]) ∧ ∃ k, w' = w.drewN k

theorem pfInner (s : ByteArray) (b : Nat) (w : World) (h : Calls Tryz.prog 78 #[.string s] w (AfPost b s.size w)) : Calls Tryz.prog 40 #[.string s, .int .i64 64] w (Pf2Post b w) := by
  have H := Lib.hid (pfPrefix s b w h)
  clear h
  go_enter Tryz.func40, Tryz.ntmps40
  go_wp2_with (first | (go_at_call 55; refine (H.out).mono ?_; rintro e w1 ⟨rfl, k, rfl⟩))
  go_ret2
  exact ⟨rfl, k, rfl⟩

theorem pfOuter (s : ByteArray) (b : Nat) (w : World) (h : Calls Tryz.prog 78 #[.string s] w (AfPost b s.size w)) : Calls Tryz.prog 28 #[.string s, .int .i64 64] w (Pf2Post b w) := by
  have H := Lib.hid (pfInner s b w h)
  clear h
  go_enter Tryz.func28, Tryz.ntmps28
  go_wp2_with (first | (go_at_call 40; refine (H.out).mono ?_; rintro e w1 ⟨rfl, k, rfl⟩))
  go_ret2
  exact ⟨rfl, k, rfl⟩

/-- What ParseFloat gives on the quick roads: nought, and what is exact. -/
def pfNum (x : Nat × Int × Bool × Bool) : Option (Option Nat) :=
  if x.1 = 0 then some (some (sgnF x.2.2.1))
  else if x.2.2.2 = true ∨ 18446744073709551616 ≤ x.1 ∨ x.2.1 < -345 ∨ 310 < x.2.1 then none
  else (exactF x.1 x.2.1 x.2.2.1).map some

def pfQuick (l : List UInt8) : Option (Option Nat) :=
  if l.all isNumC = true ∧ l.length ≤ 1000000 then (rf l).bind pfNum else none

theorem pfQuick_C (w0 : World) (hf : FloVars w0) : PfC w0 pfQuick := by
  intro txt w r ho h
  unfold pfQuick at h
  split at h
  · rename_i hc
    obtain ⟨hal, hl⟩ := hc
    obtain ⟨⟨m, e, neg, tr⟩, hrf, hn⟩ := Option.bind_eq_some_iff.1 h
    have hal' : ∀ c ∈ (⟨txt.toArray⟩ : ByteArray).data.toList, isNumC c = true := List.all_eq_true.1 hal
    have hl' : (⟨txt.toArray⟩ : ByteArray).size ≤ 1000000 := by simpa [ByteArray.size] using hl
    have hfin : ∀ b, Calls Tryz.prog 78 #[.string ⟨txt.toArray⟩] w (AfPost b (⟨txt.toArray⟩ : ByteArray).size w) → r = some b → Calls Tryz.prog 28 #[.string ⟨txt.toArray⟩, .int .i64 64] w (PfPost w.heap.size w r) := by
      rintro b hb rfl
      refine (pfOuter _ b w hb).mono ?_
      rintro e w' ⟨rfl, k, rfl⟩
      exact ⟨⟨_, _, rfl, rfl, rfl⟩, ⟨rfl, rfl, rfl, Nat.le_refl _, fun _ _ => rfl⟩⟩
    unfold pfNum at hn
    simp only at hn
    split at hn
    · rename_i h0
      subst h0
      exact hfin _ (atof64_zero _ hal' hl' w0 hf w ho e neg tr hrf) (Option.some.inj hn).symm
    · rename_i h0
      split at hn
      · cases hn
      · rename_i h1
        obtain ⟨b, hb, rfl⟩ := Option.map_eq_some_iff.1 hn
        have htr : tr = false := by cases tr <;> simp_all
        subst htr
        exact hfin b (atof64_exact _ hal' hl' w0 hf w ho m h0 (by omega) e (by omega) (by omega) neg b hrf hb) rfl
  · cases h

end Go.Proofs.YtdabllkphibfmaaGreatDoor
