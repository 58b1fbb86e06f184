/-
  SEAT b6625877aD: what the listed variables give the walks: the two sentinels' cells; and the witness's condition.
-/
import Derived.Test.Qxb6625877aDoorId
import Derived.ProofKit
import Derived.LaidMore
import Derived.OpenShut
import Derived.Stop.Joined
import Derived.Stop.LaidErr
namespace Go.Proofs.Qxb6625877aDoor
open Go.ChangeShapes Go.WideShapes Go.ChangeAt Go.WideMaps Go.WideElems Go.RowKit

/-- The list of the variables with what they hold. -/
def laid5 : List (String × DataW Unit) := Rows.fnIdIsDecimalValueOfFieldRow.laid
theorem laid5_is : Rows.fnIdIsDecimalValueOfFieldRow.laid = laid5 := rfl
theorem laid5_app : Rows.fnIdAppendDigitShiftsValueRow.laid = laid5 := rfl

theorem own : ownKnob Tryd.prog.godebug = none := by kernel_rfl
theorem laidOut : laidOutB Tryd.prog = true := by kernel_rfl
theorem cells9 : Tryd.prog.cellsOf 9 = 1 := by kernel_rfl
theorem cells52 : Tryd.prog.cellsOf 52 = 1 := by kernel_rfl
theorem tSyn : (Tryd.prog.globals[0]?).map (·.type) = some 33 := by kernel_rfl
theorem tRan : (Tryd.prog.globals[1]?).map (·.type) = some 33 := by kernel_rfl

theorem sentinels_of_laid {W : World} (h : laidMetH Tryd.prog laid5 W) : Sentinels W := by
  rw [MakeChecks.laidMetH_plain _ _ _ (by kernel_rfl)] at h
  have h3 : laidMet Tryd.prog [("strconv.ErrRange", Rows.laid_strconv_ErrRange), ("strconv.ErrSyntax", Rows.laid_strconv_ErrSyntax)] W := h.tail.tail.tail
  have row50 := typeName_ptr_named (P := Tryd.prog) (nm := "errors.errorString") (tp := 50) (by kernel_rfl) (by kernel_rfl) (by decide)
  obtain ⟨a1, s1, hv1, _, _, _⟩ := laid_sentinel h3 gRan tRan Tryd.underlying33 (fun u hu => row50 u (hu.trans (congrArg some (by decide)))) Tryd.underlying50 Tryd.underlying52 rfl rfl Tryd.underlying9 cells52 cells9
  obtain ⟨a0, s0, hv0, _, _, _⟩ := laid_sentinel h3.tail gSyn tSyn Tryd.underlying33 (fun u hu => row50 u (hu.trans (congrArg some (by decide)))) Tryd.underlying50 Tryd.underlying52 rfl rfl Tryd.underlying9 cells52 cells9
  exact ⟨⟨_, _, hv0⟩, _, _, hv1⟩

/-- The door's own heap meets the condition. -/
theorem door_met (os : Os) (args : Array Value) : laidMetH Tryd.prog laid5 ((World.doorLaid Tryd.prog 62 os).forCall (fun _ _ => 0) ⟨#[], args, []⟩).memory :=
  laidMetH_of_parts3 (fuel := 8) (laidMet_of_run' 8 (by kernel_rfl) (by kernel_rfl)) (by kernel_rfl) (by kernel_rfl)
end Go.Proofs.Qxb6625877aDoor
