/- Closed facts of a row. -/
import Derived.Test.YtnpcmmjdojdmnaaGreatDoorRows
import Derived.JoinedOf
namespace Go.Proofs.YtnpcmmjdojdmnaaGreatDoor
open Go Go.ChangeShapes Go.WideShapes
set_option maxRecDepth 100000
theorem W_0 : (Rows.fnMaRawRow.wf (OpenSpec.ofChange Rows.fnMaRawSpec)) = true := by kernel_rfl
theorem W_1 : (laidOutB Tryz.prog) = true := by kernel_rfl
theorem W_2 : (mapsRowed Tryz.prog) = true := by kernel_rfl
end Go.Proofs.YtnpcmmjdojdmnaaGreatDoor
