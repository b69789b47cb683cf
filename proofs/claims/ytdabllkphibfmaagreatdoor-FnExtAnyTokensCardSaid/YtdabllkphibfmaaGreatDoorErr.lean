/- Contracts of errors.Is at what the scanner hands it (nil, and the sentinel itself), of errors.New, of isWhiteSpace and its kin. -/
import Derived.Test.YtdabllkphibfmaaGreatDoorProg
import Derived.WalkKit
import Derived.LaidEql
import Derived.Stop.Asserts
import Derived.RowKitTokens
namespace Go.Proofs.YtdabllkphibfmaaGreatDoor
open Go Go.RowKit Go.Extern.Stop Go.Stop Go.Extern

theorem isTypeOf (v : Value) (w : World) : (Extern.ReflectliteType.typeOf #[.iface 150 v]).run Tryz.prog w = .ok (.iface 162 (.agg #[.pointer (some ⟨20, 150, none⟩)])) w := by kernel_rfl
def cmpFn : Array Value → Sem Value := Extern.ReflectliteType.method fun t => do Extern.Rtype.noPackHeld "Comparable" t; pure (.bool (← typeInfo t).comparable)
theorem isComparable (w : World) : (cmpFn #[.agg #[.pointer (some ⟨20, 150, none⟩)]]).run Tryz.prog w = .ok (.bool true) w := by kernel_rfl
theorem isMethodComparable (v : Value) (w : World) : (Go.method 386 162 v "Comparable").run Tryz.prog w = .ok (171, v) w := by kernel_rfl
theorem isComp : (Tryz.prog.info? 150).map (·.comparable) = some true := by kernel_rfl
theorem isSize : (Tryz.prog.info? 152).map (·.size) = some 1 := by kernel_rfl

set_option maxRecDepth 100000 in
/-- errors.Is(x, x), x a pointer to an errors.errorString. -/
theorem is_same (a : Addr) (w : World) :
    Calls Tryz.prog 49 #[.iface 150 (.pointer (some a)), .iface 150 (.pointer (some a))] w fun e w' => e = .returned (.bool true) ∧ w = w' := by
  obtain ⟨i, hi, hcmp⟩ := Option.map_eq_some_iff.1 isComp
  obtain ⟨j, hj, hjs⟩ := Option.map_eq_some_iff.1 isSize
  have h8 := @run_callFunc_extern Tryz.prog 66 _ Extern.ReflectliteType.typeOf Tryz.func66 (by kernel_rfl) (by kernel_rfl) (by kernel_rfl) (by kernel_rfl)
  have h32 := @run_callFunc_extern Tryz.prog 171 _ cmpFn Tryz.func171 (by kernel_rfl) (by kernel_rfl) (by kernel_rfl) (by kernel_rfl)
  have tT := isTypeOf
  have cT := isComparable
  have mR := isMethodComparable
  have heq := run_eql_iface_ptr_same (P := Tryz.prog) w a Tryz.underlying57 Tryz.underlying150 hi hcmp hj
  go_enter Tryz.func49, Tryz.ntmps49
  go_wp2
  refine wp_loop_rounds 1 ?_
  rw [rounds_succ]
  go_wp2
  go_ret
  exact ⟨rfl, rfl⟩

/-- errors.Is(nil, x). -/
theorem is_nil (b : Addr) (w : World) :
    Calls Tryz.prog 49 #[.nilIface, .iface 150 (.pointer (some b))] w fun e w' => e = .returned (.bool false) ∧ w = w' := by
  have hn := run_eql_iface_nil_left (P := Tryz.prog) w 150 (.pointer (some b)) Tryz.underlying57
  go_enter Tryz.func49, Tryz.ntmps49
  go_wp2
  go_ret
  exact ⟨rfl, rfl⟩

/-- errors.New. -/
theorem errors_new (s : ByteArray) (w : World) :
    Calls Tryz.prog 54 #[.string s] w fun e w' => e = .returned (.iface 150 (.pointer (some ⟨w.heap.size, 0, none⟩))) ∧ w.alloc (.cells #[.string s] 152) = w' := by
  go_enter Tryz.func54, Tryz.ntmps54
  go_wp2
  go_ret
  exact ⟨rfl, rfl⟩

theorem isWs (c : Int) (w : World) :
    Calls Tryz.prog 48 #[.int .u8 c] w fun e w' => e = .returned (.bool (c == 32 || c == 9 || c == 13 || c == 10)) ∧ w = w' := by
  go_enter Tryz.func48, Tryz.ntmps48
  go_wp2
  all_goals go_ret
  all_goals first | exact ⟨rfl, rfl⟩ | (simp [*]; done)

theorem isDigit (c : Int) (w : World) :
    Calls Tryz.prog 51 #[.int .u8 c] w fun e w' => e = .returned (.bool (decide (48 ≤ c) && decide (c ≤ 57))) ∧ w = w' := by
  go_enter Tryz.func51, Tryz.ntmps51
  go_wp2
  all_goals go_ret
  all_goals first | exact ⟨rfl, rfl⟩ | (simp [*]; done) | (refine ⟨?_, rfl⟩; simp [*]; omega)

#print axioms is_same
end Go.Proofs.YtdabllkphibfmaaGreatDoor
