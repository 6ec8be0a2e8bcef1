/- Closed facts of a row. -/
import Derived.Test.YtnpcmmjdojdmnaaGreatDoorRows
import Derived.JoinedOf
namespace Go.Proofs.YtnpcmmjdojdmnaaGreatDoor
open Go Go.ChangeShapes Go.WideShapes
set_option maxRecDepth 100000
theorem J_3 : (Tryz.f3.params.all (Tryz.prog.readableRec ·)) = true := by kernel_rfl
theorem J_4 : (namedTie Tryz.prog Rows.fnMaComponentsRow.named Rows.fnMaComponentsSpec.vars) = true := by kernel_rfl
theorem J_5 : ((Rows.fnMaComponentsRow.stops == [])) = true := by kernel_rfl
end Go.Proofs.YtnpcmmjdojdmnaaGreatDoor
