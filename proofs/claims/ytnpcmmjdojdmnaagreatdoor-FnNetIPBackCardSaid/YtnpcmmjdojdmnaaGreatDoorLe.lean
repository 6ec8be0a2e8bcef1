/- Closed facts of a row. -/
import Derived.Test.YtnpcmmjdojdmnaaGreatDoorRows
import Derived.JoinedOf
namespace Go.Proofs.YtnpcmmjdojdmnaaGreatDoor
open Go Go.ChangeShapes Go.WideShapes
set_option maxRecDepth 100000
theorem L_12 : ((Rows.fnNetIPBackRow.named == Tryz.prog.varsNamed 6)) = true := by kernel_rfl
theorem L_13 : ((Rows.fnNetIPBackRow.maps == (Tryz.f6.params.toList ++ Rows.fnNetIPBackSpec.plain.varTypes Tryz.prog).any (Tryz.prog.mapsRec ·))) = true := by kernel_rfl
theorem L_14 : ((Rows.fnNetIPBackRow.ifaces == (Tryz.f6.params.toList ++ Rows.fnNetIPBackSpec.plain.varTypes Tryz.prog).any (Tryz.prog.ifacesRec ·))) = true := by kernel_rfl
end Go.Proofs.YtnpcmmjdojdmnaaGreatDoor
