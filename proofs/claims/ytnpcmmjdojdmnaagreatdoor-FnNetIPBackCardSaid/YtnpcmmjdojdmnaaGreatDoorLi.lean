/- Closed facts of a row. -/
import Derived.Test.YtnpcmmjdojdmnaaGreatDoorRows
import Derived.JoinedOf
namespace Go.Proofs.YtnpcmmjdojdmnaaGreatDoor
open Go Go.ChangeShapes Go.WideShapes
set_option maxRecDepth 100000
theorem L_24 : (Tryz.prog.stopsHeard) = true := by kernel_rfl
theorem L_25 : (Tryz.prog.mayEnter) = true := by kernel_rfl
theorem L_26 : ((Rows.fnNetIPBackRow.lifted == Tryz.prog.liftsFinal)) = true := by kernel_rfl
end Go.Proofs.YtnpcmmjdojdmnaaGreatDoor
