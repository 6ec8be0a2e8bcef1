/- Closed facts of a row. -/
import Derived.Test.YtnpcmmjdojdmnaaGreatDoorRows
import Derived.JoinedOf
namespace Go.Proofs.YtnpcmmjdojdmnaaGreatDoor
open Go Go.ChangeShapes Go.WideShapes
set_option maxRecDepth 100000
theorem J_0 : (Rows.fnMaComponentsRow.wf (OpenSpec.ofChange Rows.fnMaComponentsSpec)) = true := by kernel_rfl
theorem J_1 : (laidOutB Tryz.prog) = true := by kernel_rfl
theorem J_2 : (mapsRowed Tryz.prog) = true := by kernel_rfl
end Go.Proofs.YtnpcmmjdojdmnaaGreatDoor
