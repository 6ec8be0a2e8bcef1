/- Closed facts of a row. Closed facts of a row. Closed facts of a row. Closed facts of a row. -/
import Derived.Test.YtnpcmmjdojdmnaaGreatDoorRows
import Derived.JoinedOf
namespace Go.Proofs.YtnpcmmjdojdmnaaGreatDoor
open Go Go.ChangeShapes Go.WideShapes
set_option maxRecDepth 100000
theorem V_18 : (Rows.fnMaOneSpec.vars.all (Tryz.prog.varReadable ·)) = true := by kernel_rfl
theorem V_19 : (Tryz.f4.resultTypes.all (fun t => Tryz.prog.readableRec t && decide (t < Tryz.prog.types.size))) = true := by kernel_rfl
theorem V_20 : ((Rows.fnMaOneRow.ifacesOut == Tryz.f4.resultTypes.toList.any (Tryz.prog.ifacesRec ·))) = true := by kernel_rfl
end Go.Proofs.YtnpcmmjdojdmnaaGreatDoor
namespace Go.Proofs.YtnpcmmjdojdmnaaGreatDoor
open Go Go.ChangeShapes Go.WideShapes
set_option maxRecDepth 100000
theorem V_21 : ((Rows.fnMaOneRow.loopsOut == Tryz.f4.resultTypes.toList.any (Tryz.prog.loopsFrom ·))) = true := by kernel_rfl
theorem V_22 : ((Rows.fnMaOneRow.plainKeys == Tryz.prog.plainKeys)) = true := by kernel_rfl
theorem V_23 : (Rows.fnMaOneRow.shortTexts.isNone) = true := by kernel_rfl
end Go.Proofs.YtnpcmmjdojdmnaaGreatDoor
namespace Go.Proofs.YtnpcmmjdojdmnaaGreatDoor
open Go Go.ChangeShapes Go.WideShapes
set_option maxRecDepth 100000
theorem V_27 : ((Tryz.prog.make == some Rows.fnMaOneRow.make)) = true := by kernel_rfl
theorem V_28 : ((Rows.fnMaOneRow.kinds == (if Rows.fnMaOneRow.domain.isEmpty then [] else Tryz.f4.params.toList.map fun t => match Tryz.prog.underlying t with | some (.int k) => some k | _ => none))) = true := by kernel_rfl
theorem V_29 : ((Rows.fnMaOneRow.pinned == Rows.fnMaOneRow.pinnedBy)) = true := by kernel_rfl
end Go.Proofs.YtnpcmmjdojdmnaaGreatDoor
namespace Go.Proofs.YtnpcmmjdojdmnaaGreatDoor
open Go Go.ChangeShapes Go.WideShapes
set_option maxRecDepth 100000
theorem V_30 : ((Rows.fnMaOneRow.veiled == (Tryz.f4.params.toList ++ Rows.fnMaOneSpec.plain.varTypes Tryz.prog ++ Tryz.f4.resultTypes.toList).any (Tryz.prog.veiledRec ·))) = true := by kernel_rfl
theorem V_31 : (Rows.fnMaOneRow.veiledFits Tryz.prog Tryz.f4.params.toList (Tryz.f4.params.toList ++ Rows.fnMaOneSpec.plain.varTypes Tryz.prog ++ Tryz.f4.resultTypes.toList)) = true := by kernel_rfl
end Go.Proofs.YtnpcmmjdojdmnaaGreatDoor
