/- Closed facts of a row. -/
import Derived.Test.YtnpcmmjdojdmnaaGreatDoorRows
import Derived.JoinedOf
namespace Go.Proofs.YtnpcmmjdojdmnaaGreatDoor
open Go Go.ChangeShapes Go.WideShapes
set_option maxRecDepth 100000
theorem J_21 : ((Rows.fnMaComponentsRow.loopsOut == Tryz.f3.resultTypes.toList.any (Tryz.prog.loopsFrom ·))) = true := by kernel_rfl
theorem J_22 : ((Rows.fnMaComponentsRow.plainKeys == Tryz.prog.plainKeys)) = true := by kernel_rfl
theorem J_23 : (Rows.fnMaComponentsRow.shortTexts.isNone) = true := by kernel_rfl
end Go.Proofs.YtnpcmmjdojdmnaaGreatDoor
