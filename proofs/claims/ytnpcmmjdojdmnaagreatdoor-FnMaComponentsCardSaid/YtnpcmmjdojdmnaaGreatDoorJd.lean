/- Closed facts of a row. -/
import Derived.Test.YtnpcmmjdojdmnaaGreatDoorRows
import Derived.JoinedOf
namespace Go.Proofs.YtnpcmmjdojdmnaaGreatDoor
open Go Go.ChangeShapes Go.WideShapes
set_option maxRecDepth 100000
theorem J_9 : ((Rows.fnMaComponentsRow.inPlace == Tryz.prog.inPlace 3)) = true := by kernel_rfl
theorem J_10 : ((Rows.fnMaComponentsRow.unfollowed == Tryz.prog.unfollowed 3)) = true := by kernel_rfl
theorem J_11 : ((Rows.fnMaComponentsRow.recurses == Tryz.prog.recurses 3)) = true := by kernel_rfl
end Go.Proofs.YtnpcmmjdojdmnaaGreatDoor
