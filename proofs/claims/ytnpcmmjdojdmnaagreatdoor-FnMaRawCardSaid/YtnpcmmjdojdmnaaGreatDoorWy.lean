/- Closed facts of a row. Closed facts of a row. Closed facts of a row. Closed facts of a row. -/
import Derived.Test.YtnpcmmjdojdmnaaGreatDoorRows
import Derived.JoinedOf
namespace Go.Proofs.YtnpcmmjdojdmnaaGreatDoor
open Go Go.ChangeShapes Go.WideShapes
set_option maxRecDepth 100000
theorem W_18 : (Rows.fnMaRawSpec.vars.all (Tryz.prog.varReadable ·)) = true := by kernel_rfl
theorem W_19 : (Tryz.f5.resultTypes.all (fun t => Tryz.prog.readableRec t && decide (t < Tryz.prog.types.size))) = true := by kernel_rfl
theorem W_20 : ((Rows.fnMaRawRow.ifacesOut == Tryz.f5.resultTypes.toList.any (Tryz.prog.ifacesRec ·))) = true := by kernel_rfl
end Go.Proofs.YtnpcmmjdojdmnaaGreatDoor
namespace Go.Proofs.YtnpcmmjdojdmnaaGreatDoor
open Go Go.ChangeShapes Go.WideShapes
set_option maxRecDepth 100000
theorem W_21 : ((Rows.fnMaRawRow.loopsOut == Tryz.f5.resultTypes.toList.any (Tryz.prog.loopsFrom ·))) = true := by kernel_rfl
theorem W_22 : ((Rows.fnMaRawRow.plainKeys == Tryz.prog.plainKeys)) = true := by kernel_rfl
theorem W_23 : (Rows.fnMaRawRow.shortTexts.isNone) = true := by kernel_rfl
end Go.Proofs.YtnpcmmjdojdmnaaGreatDoor
namespace Go.Proofs.YtnpcmmjdojdmnaaGreatDoor
open Go Go.ChangeShapes Go.WideShapes
set_option maxRecDepth 100000
theorem W_27 : ((Tryz.prog.make == some Rows.fnMaRawRow.make)) = true := by kernel_rfl
theorem W_28 : ((Rows.fnMaRawRow.kinds == (if Rows.fnMaRawRow.domain.isEmpty then [] else Tryz.f5.params.toList.map fun t => match Tryz.prog.underlying t with | some (.int k) => some k | _ => none))) = true := by kernel_rfl
theorem W_29 : ((Rows.fnMaRawRow.pinned == Rows.fnMaRawRow.pinnedBy)) = true := by kernel_rfl
end Go.Proofs.YtnpcmmjdojdmnaaGreatDoor
namespace Go.Proofs.YtnpcmmjdojdmnaaGreatDoor
open Go Go.ChangeShapes Go.WideShapes
set_option maxRecDepth 100000
theorem W_30 : ((Rows.fnMaRawRow.veiled == (Tryz.f5.params.toList ++ Rows.fnMaRawSpec.plain.varTypes Tryz.prog ++ Tryz.f5.resultTypes.toList).any (Tryz.prog.veiledRec ·))) = true := by kernel_rfl
theorem W_31 : (Rows.fnMaRawRow.veiledFits Tryz.prog Tryz.f5.params.toList (Tryz.f5.params.toList ++ Rows.fnMaRawSpec.plain.varTypes Tryz.prog ++ Tryz.f5.resultTypes.toList)) = true := by kernel_rfl
end Go.Proofs.YtnpcmmjdojdmnaaGreatDoor
