/- Closed facts of a row. -/
import Derived.Test.YtnpcmmjdojdmnaaGreatDoorRows
import Derived.JoinedOf
namespace Go.Proofs.YtnpcmmjdojdmnaaGreatDoor
open Go Go.ChangeShapes Go.WideShapes
set_option maxRecDepth 100000
theorem W_9 : ((Rows.fnMaRawRow.inPlace == Tryz.prog.inPlace 5)) = true := by kernel_rfl
theorem W_10 : ((Rows.fnMaRawRow.unfollowed == Tryz.prog.unfollowed 5)) = true := by kernel_rfl
theorem W_11 : ((Rows.fnMaRawRow.recurses == Tryz.prog.recurses 5)) = true := by kernel_rfl
end Go.Proofs.YtnpcmmjdojdmnaaGreatDoor
