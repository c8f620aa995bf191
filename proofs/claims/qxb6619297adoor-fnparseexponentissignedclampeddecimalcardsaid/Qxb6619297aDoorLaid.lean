import Derived.Test.Qxb6619297aDoorParse
import Derived.ProofKit
import Derived.LaidMore
import Derived.Stop.Joined
import Derived.Stop.LaidErr
namespace Go.Proofs.Qxb6619297aDoor
open Go.ChangeShapes Go.WideShapes Go.ChangeAt Go.RowKit

def laid5 : List (String × DataW Unit) := Rows.fnParseExponentAppendDigitIsHornerStepRow.laid

theorem own : ownKnob Tryd.prog.godebug = none := by kernel_rfl
theorem gRange : Tryd.prog.globalNamed "strconv.ErrRange" = some 1 := by kernel_rfl
theorem tRange : (Tryd.prog.globals[1]?).map (·.type) = some 32 := by kernel_rfl
theorem cells56 : Tryd.prog.cellsOf 56 = 1 := by kernel_rfl
theorem cells9 : Tryd.prog.cellsOf 9 = 1 := by kernel_rfl
theorem laidOut : laidOutB Tryd.prog = true := by kernel_rfl

/-- the door's own heap meets the condition -/
theorem door_met (os : Os) (args : Array Value) : laidMetH Tryd.prog laid5 ((World.doorLaid Tryd.prog 62 os).forCall (fun _ _ => 0) ⟨#[], args, []⟩).memory :=
  laidMetH_of_parts3 (fuel := 8) (laidMet_of_run' 8 (by kernel_rfl) (by kernel_rfl)) (by kernel_rfl) (by kernel_rfl)

theorem ev_of_laid {W : World} (h : laidMetH Tryd.prog laid5 W) : EV W := by
  rw [MakeChecks.laidMetH_plain _ _ _ (by kernel_rfl)] at h
  obtain ⟨a, s, hv, _, _, _⟩ := laid_sentinel (laidMet.tail (laidMet.tail (laidMet.tail h))) gRange tRange Tryd.underlying32 (fun u hu => typeName_ptr_named (nm := "errors.errorString") (by kernel_rfl) (by kernel_rfl) (by decide) u (hu.trans (by kernel_rfl))) Tryd.underlying54 Tryd.underlying56 rfl rfl Tryd.underlying9 cells56 cells9
  exact ⟨54, .pointer (some a), by simpa using World.var?_cell gRange hv 0⟩
end Go.Proofs.Qxb6619297aDoor
