/- Small contracts of the scanner: isDigit, isValueTerminator, bytes.Equal at four bytes; the counter goes one back through a float64. -/
import Derived.Test.YtdabllkphibfmaaGreatDoorTok
import Derived.Lib.ConvBytes
namespace Go.Proofs.YtdabllkphibfmaaGreatDoor
open Go Go.RowKit

/-- A small count as a float64. -/
def fb (n : Int) : Nat := FloatKind.f64.nearest n
/-- What archMax gives at 0 and y. -/
noncomputable def mx (y : Nat) : Nat :=
  match (Extern.MathDim.pick "math.archMax" false .gt #[.float .f64 0, .float .f64 y]).run Tryz.prog default with
  | .ok (.float _ r) _ => r
  | _ => 0

theorem mx_fb : ∀ k : Fin 514, mx (fb ((k.val : Int) - 1)) = fb ((k.val - 1 : Nat) : Int) := by decide +kernel
theorem fb_back : ∀ k : Fin 514, ((FloatKind.f64.decode (fb (k.val : Int))).toInt .zero) = some (k.val : Int) := by decide +kernel
theorem run_mx (y : Nat) (w : World) : (Extern.MathDim.pick "math.archMax" false .gt #[.float .f64 0, .float .f64 y]).run Tryz.prog w = .ok (.float .f64 (mx y)) w := by kernel_rfl
theorem conv_to (n : Int) (w : World) : (convert 3 62 (.int .i64 n)).run Tryz.prog w = .ok (.float .f64 (fb n)) w := by kernel_rfl
theorem conv_back (k : Nat) (hk : k < 514) (w : World) : (convert 62 3 (.float .f64 (fb (k : Int)))).run Tryz.prog w = .ok (.int .i64 k) w := by
  have h := fb_back ⟨k, hk⟩
  have h0 : (convert 62 3 (.float .f64 (fb (k : Int)))).run Tryz.prog w = (Conv.floatToInt .f64 (fb (k : Int)) .i64).run Tryz.prog w := by kernel_rfl
  rw [h0]
  unfold Conv.floatToInt
  simp only at h
  rw [h]
  have hb : IntKind.i64.min ≤ (k : Int) ∧ (k : Int) ≤ IntKind.i64.max := by
    simp only [IntKind.min, IntKind.max, IntKind.signed, IntKind.bits]
    omega
  simp only [hb, and_self, if_true]
  rfl

theorem max0 (k : Nat) (hk : k < 514) (w : World) : Calls Tryz.prog 73 #[.float .f64 0, .float .f64 (fb ((k : Int) - 1))] w fun e w' => e = .returned (.float .f64 (fb ((k - 1 : Nat) : Int))) ∧ w = w' := by
  have h85 := @run_callFunc_extern Tryz.prog 85 _ (Extern.MathDim.pick "math.archMax" false .gt) Tryz.func85 (by kernel_rfl) (by kernel_rfl) (by kernel_rfl) (by kernel_rfl)
  have hr := run_mx (fb ((k : Int) - 1))
  rw [mx_fb ⟨k, hk⟩] at hr
  go_enter Tryz.func73, Tryz.ntmps73
  go_wp2
  go_ret
  exact ⟨rfl, rfl⟩

/-- What ends a value. -/
def isTerm (c : UInt8) : Bool := c == 44 || c == 125 || c == 93 || isBlank c

theorem isVT (c : UInt8) (w : World) : Calls Tryz.prog 76 #[.int .u8 (c.toNat : Int)] w fun e w' => e = .returned (.bool (isTerm c)) ∧ w = w' := by
  have key : ∀ k : UInt8, ((c.toNat : Int) == (k.toNat : Int)) = (c == k) := by
    intro k
    rw [Bool.eq_iff_iff]
    simp only [beq_iff_eq]
    constructor
    · intro h
      exact UInt8.toNat_inj.1 (by omega)
    · rintro rfl; rfl
  have k44 : ((c.toNat : Int) == 44) = (c == 44) := key 44
  have k125 : ((c.toNat : Int) == 125) = (c == 125) := key 125
  have k93 : ((c.toNat : Int) == 93) = (c == 93) := key 93
  have ht : isTerm c = (c == 44 || c == 125 || c == 93 || isBlank c) := rfl
  rw [ht, ← k44, ← k125, ← k93]
  clear k44 k125 k93 ht key
  have hw := fun w => isWsB c (isBlank c) rfl w
  cases h1 : ((c.toNat : Int) == 44) <;> cases h2 : ((c.toNat : Int) == 125) <;> cases h3 : ((c.toNat : Int) == 93) <;>
  · go_enter Tryz.func76, Tryz.ntmps76
    go_wp2_with (first | (go_at_call 48; refine (hw _).mono ?_; rintro e w1 ⟨rfl, rfl⟩))
    go_ret
    exact ⟨rfl, rfl⟩

end Go.Proofs.YtdabllkphibfmaaGreatDoor
