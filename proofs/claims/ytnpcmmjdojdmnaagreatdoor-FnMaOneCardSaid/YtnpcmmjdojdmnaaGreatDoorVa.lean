/- Closed facts of a row. -/
import Derived.Test.YtnpcmmjdojdmnaaGreatDoorRows
import Derived.JoinedOf
namespace Go.Proofs.YtnpcmmjdojdmnaaGreatDoor
open Go Go.ChangeShapes Go.WideShapes
set_option maxRecDepth 100000
theorem V_0 : (Rows.fnMaOneRow.wf (OpenSpec.ofChange Rows.fnMaOneSpec)) = true := by kernel_rfl
theorem V_1 : (laidOutB Tryz.prog) = true := by kernel_rfl
theorem V_2 : (mapsRowed Tryz.prog) = true := by kernel_rfl
end Go.Proofs.YtnpcmmjdojdmnaaGreatDoor
