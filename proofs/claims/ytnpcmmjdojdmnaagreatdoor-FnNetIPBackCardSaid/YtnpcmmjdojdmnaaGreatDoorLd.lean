/- Closed facts of a row. -/
import Derived.Test.YtnpcmmjdojdmnaaGreatDoorRows
import Derived.JoinedOf
namespace Go.Proofs.YtnpcmmjdojdmnaaGreatDoor
open Go Go.ChangeShapes Go.WideShapes
set_option maxRecDepth 100000
theorem L_9 : ((Rows.fnNetIPBackRow.inPlace == Tryz.prog.inPlace 6)) = true := by kernel_rfl
theorem L_10 : ((Rows.fnNetIPBackRow.unfollowed == Tryz.prog.unfollowed 6)) = true := by kernel_rfl
theorem L_11 : ((Rows.fnNetIPBackRow.recurses == Tryz.prog.recurses 6)) = true := by kernel_rfl
end Go.Proofs.YtnpcmmjdojdmnaaGreatDoor
