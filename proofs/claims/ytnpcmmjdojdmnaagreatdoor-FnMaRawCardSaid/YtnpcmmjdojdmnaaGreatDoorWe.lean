/- Closed facts of a row. -/
import Derived.Test.YtnpcmmjdojdmnaaGreatDoorRows
import Derived.JoinedOf
namespace Go.Proofs.YtnpcmmjdojdmnaaGreatDoor
open Go Go.ChangeShapes Go.WideShapes
set_option maxRecDepth 100000
theorem W_12 : ((Rows.fnMaRawRow.named == Tryz.prog.varsNamed 5)) = true := by kernel_rfl
theorem W_13 : ((Rows.fnMaRawRow.maps == (Tryz.f5.params.toList ++ Rows.fnMaRawSpec.plain.varTypes Tryz.prog).any (Tryz.prog.mapsRec ·))) = true := by kernel_rfl
theorem W_14 : ((Rows.fnMaRawRow.ifaces == (Tryz.f5.params.toList ++ Rows.fnMaRawSpec.plain.varTypes Tryz.prog).any (Tryz.prog.ifacesRec ·))) = true := by kernel_rfl
end Go.Proofs.YtnpcmmjdojdmnaaGreatDoor
