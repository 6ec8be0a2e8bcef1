/- Closed facts of a row. -/
import Derived.Test.YtnpcmmjdojdmnaaGreatDoorRows
import Derived.JoinedOf
namespace Go.Proofs.YtnpcmmjdojdmnaaGreatDoor
open Go Go.ChangeShapes Go.WideShapes
set_option maxRecDepth 100000
theorem V_9 : ((Rows.fnMaOneRow.inPlace == Tryz.prog.inPlace 4)) = true := by kernel_rfl
theorem V_10 : ((Rows.fnMaOneRow.unfollowed == Tryz.prog.unfollowed 4)) = true := by kernel_rfl
theorem V_11 : ((Rows.fnMaOneRow.recurses == Tryz.prog.recurses 4)) = true := by kernel_rfl
end Go.Proofs.YtnpcmmjdojdmnaaGreatDoor
