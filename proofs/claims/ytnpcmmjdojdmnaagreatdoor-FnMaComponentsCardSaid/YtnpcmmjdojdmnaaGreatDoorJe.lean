/- Closed facts of a row. -/
import Derived.Test.YtnpcmmjdojdmnaaGreatDoorRows
import Derived.JoinedOf
namespace Go.Proofs.YtnpcmmjdojdmnaaGreatDoor
open Go Go.ChangeShapes Go.WideShapes
set_option maxRecDepth 100000
theorem J_12 : ((Rows.fnMaComponentsRow.named == Tryz.prog.varsNamed 3)) = true := by kernel_rfl
theorem J_13 : ((Rows.fnMaComponentsRow.maps == (Tryz.f3.params.toList ++ Rows.fnMaComponentsSpec.plain.varTypes Tryz.prog).any (Tryz.prog.mapsRec ·))) = true := by kernel_rfl
theorem J_14 : ((Rows.fnMaComponentsRow.ifaces == (Tryz.f3.params.toList ++ Rows.fnMaComponentsSpec.plain.varTypes Tryz.prog).any (Tryz.prog.ifacesRec ·))) = true := by kernel_rfl
end Go.Proofs.YtnpcmmjdojdmnaaGreatDoor
