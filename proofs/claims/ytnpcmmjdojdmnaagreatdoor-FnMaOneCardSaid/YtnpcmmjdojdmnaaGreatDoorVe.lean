/- Closed facts of a row. -/
import Derived.Test.YtnpcmmjdojdmnaaGreatDoorRows
import Derived.JoinedOf
namespace Go.Proofs.YtnpcmmjdojdmnaaGreatDoor
open Go Go.ChangeShapes Go.WideShapes
set_option maxRecDepth 100000
theorem V_12 : ((Rows.fnMaOneRow.named == Tryz.prog.varsNamed 4)) = true := by kernel_rfl
theorem V_13 : ((Rows.fnMaOneRow.maps == (Tryz.f4.params.toList ++ Rows.fnMaOneSpec.plain.varTypes Tryz.prog).any (Tryz.prog.mapsRec ·))) = true := by kernel_rfl
theorem V_14 : ((Rows.fnMaOneRow.ifaces == (Tryz.f4.params.toList ++ Rows.fnMaOneSpec.plain.varTypes Tryz.prog).any (Tryz.prog.ifacesRec ·))) = true := by kernel_rfl
end Go.Proofs.YtnpcmmjdojdmnaaGreatDoor
