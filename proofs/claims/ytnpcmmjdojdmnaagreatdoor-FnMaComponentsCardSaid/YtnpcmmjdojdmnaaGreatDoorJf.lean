/- Closed facts of a row. -/
import Derived.Test.YtnpcmmjdojdmnaaGreatDoorRows
import Derived.JoinedOf
namespace Go.Proofs.YtnpcmmjdojdmnaaGreatDoor
open Go Go.ChangeShapes Go.WideShapes
set_option maxRecDepth 100000
theorem J_15 : ((Rows.fnMaComponentsRow.mapsOut == Tryz.prog.mapsAmong Tryz.f3.resultTypes.toList)) = true := by kernel_rfl
theorem J_16 : ((Rows.fnMaComponentsRow.loops == (Tryz.f3.params.toList ++ Rows.fnMaComponentsSpec.plain.varTypes Tryz.prog).any (Tryz.prog.loopsFrom ·))) = true := by kernel_rfl
theorem J_17 : ((Rows.fnMaComponentsRow.wideKeys == (Tryz.f3.params.toList ++ Rows.fnMaComponentsSpec.plain.varTypes Tryz.prog ++ Tryz.f3.resultTypes.toList).any (Tryz.prog.wideKeysFrom ·))) = true := by kernel_rfl
end Go.Proofs.YtnpcmmjdojdmnaaGreatDoor
