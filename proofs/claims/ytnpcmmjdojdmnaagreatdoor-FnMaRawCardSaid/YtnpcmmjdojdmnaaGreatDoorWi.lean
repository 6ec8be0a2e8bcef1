/- Closed facts of a row. -/
import Derived.Test.YtnpcmmjdojdmnaaGreatDoorRows
import Derived.JoinedOf
namespace Go.Proofs.YtnpcmmjdojdmnaaGreatDoor
open Go Go.ChangeShapes Go.WideShapes
set_option maxRecDepth 100000
theorem W_24 : (Tryz.prog.stopsHeard) = true := by kernel_rfl
theorem W_25 : (Tryz.prog.mayEnter) = true := by kernel_rfl
theorem W_26 : ((Rows.fnMaRawRow.lifted == Tryz.prog.liftsFinal)) = true := by kernel_rfl
end Go.Proofs.YtnpcmmjdojdmnaaGreatDoor
