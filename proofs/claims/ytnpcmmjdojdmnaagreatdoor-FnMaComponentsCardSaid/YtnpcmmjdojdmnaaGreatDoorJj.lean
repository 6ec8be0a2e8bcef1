/- Closed facts of a row. -/
import Derived.Test.YtnpcmmjdojdmnaaGreatDoorRows
import Derived.JoinedOf
namespace Go.Proofs.YtnpcmmjdojdmnaaGreatDoor
open Go Go.ChangeShapes Go.WideShapes
set_option maxRecDepth 100000
theorem J_27 : ((Tryz.prog.make == some Rows.fnMaComponentsRow.make)) = true := by kernel_rfl
theorem J_28 : ((Rows.fnMaComponentsRow.kinds == (if Rows.fnMaComponentsRow.domain.isEmpty then [] else Tryz.f3.params.toList.map fun t => match Tryz.prog.underlying t with | some (.int k) => some k | _ => none))) = true := by kernel_rfl
theorem J_29 : ((Rows.fnMaComponentsRow.pinned == Rows.fnMaComponentsRow.pinnedBy)) = true := by kernel_rfl
end Go.Proofs.YtnpcmmjdojdmnaaGreatDoor
