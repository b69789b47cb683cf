/- What the rows' listed variables give a walk: io.EOF's cell. -/
import Derived.Test.YtdabllkphibfmaaGreatDoorRows
import Derived.Test.YtdabllkphibfmaaGreatDoorFill
import Derived.ProofKit
import Derived.OpenShut
import Derived.ShutString
import Derived.ChangeOld
import Derived.ChangeSame
import Derived.ChangeVars
import Derived.LaidLaws
import Derived.LaidHandle
import Derived.Stop.LaidErr
import Derived.Lib.LaidU8
import Derived.Lay
namespace Go.Proofs.YtdabllkphibfmaaGreatDoor
open Go Go.ChangeShapes Go.WideShapes Go.ChangeAt Go.RowKit

theorem own : ownKnob Tryz.prog.godebug = none := by kernel_rfl
theorem laidOut : laidOutB Tryz.prog = true := by kernel_rfl
theorem gEOF : Tryz.prog.globalNamed "io.EOF" = some 1 := by kernel_rfl
theorem gEOFType : (Tryz.prog.globals[1]?).map (·.type) = some 57 := by kernel_rfl
theorem cells152 : Tryz.prog.cellsOf 152 = 1 := by kernel_rfl
theorem cells9 : Tryz.prog.cellsOf 9 = 1 := by kernel_rfl
theorem starE : "*" ++ "errors.errorString" = "*errors.errorString" := by decide
theorem row150 (u : TypeId) (h : Tryz.prog.typeName? 3 u = some "*errors.errorString") : u = 150 :=
  typeName_ptr_named (nm := "errors.errorString") (by rw [starE]; kernel_rfl) (by kernel_rfl) (by decide) u (by rw [starE]; exact h)

theorem laidMet_drop {P : Program} {w : World} : ∀ (n : Nat) {l : List (String × DataW Unit)}, laidMet P l w → laidMet P (l.drop n) w
  | 0, _, h => h
  | _ + 1, [], h => h
  | n + 1, _ :: _, h => laidMet_drop n h.tail

/-- io.EOF's cell. -/
theorem eof_of_laid {W : World} {l r : List (String × DataW Unit)} (n : Nat) (h : laidMet Tryz.prog l W) (hl : l.drop n = ("io.EOF", Rows.laid_io_EOF) :: r) : ∃ ea, W.cell? ⟨1, 0, none⟩ = some (EOFv ea) := by
  have h2 := laidMet_drop n h
  rw [hl] at h2
  obtain ⟨a, s, hv, _, _, _⟩ := laid_sentinel h2 gEOF gEOFType Tryz.underlying57 row150 Tryz.underlying150 Tryz.underlying152 rfl rfl Tryz.underlying9 cells152 cells9
  exact ⟨a, by simpa using World.var?_cell gEOF hv 0⟩

end Go.Proofs.YtdabllkphibfmaaGreatDoor
