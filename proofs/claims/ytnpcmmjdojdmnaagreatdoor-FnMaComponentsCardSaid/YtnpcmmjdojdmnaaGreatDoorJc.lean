/- Closed facts of a row. -/
import Derived.Test.YtnpcmmjdojdmnaaGreatDoorRows
import Derived.JoinedOf
namespace Go.Proofs.YtnpcmmjdojdmnaaGreatDoor
open Go Go.ChangeShapes Go.WideShapes
set_option maxRecDepth 100000
theorem J_6 : ((Tryz.prog.stops == [])) = true := by kernel_rfl
theorem J_7 : ((Rows.fnMaComponentsRow.knobs == [])) = true := by kernel_rfl
theorem J_8 : ((Tryz.prog.stopKnobs == [])) = true := by kernel_rfl
end Go.Proofs.YtnpcmmjdojdmnaaGreatDoor
