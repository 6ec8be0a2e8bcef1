/- Closed facts of a row. -/
import Derived.Test.YtnpcmmjdojdmnaaGreatDoorRows
import Derived.JoinedOf
namespace Go.Proofs.YtnpcmmjdojdmnaaGreatDoor
open Go Go.ChangeShapes Go.WideShapes
set_option maxRecDepth 100000
theorem L_0 : (Rows.fnNetIPBackRow.wf (OpenSpec.ofChange Rows.fnNetIPBackSpec)) = true := by kernel_rfl
theorem L_1 : (laidOutB Tryz.prog) = true := by kernel_rfl
theorem L_2 : (mapsRowed Tryz.prog) = true := by kernel_rfl
end Go.Proofs.YtnpcmmjdojdmnaaGreatDoor
