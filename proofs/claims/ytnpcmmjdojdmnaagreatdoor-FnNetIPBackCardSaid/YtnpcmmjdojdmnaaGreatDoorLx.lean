/- Closed facts of a row. Closed facts of a row. Closed facts of a row. -/
import Derived.Test.YtnpcmmjdojdmnaaGreatDoorRows
import Derived.JoinedOf
namespace Go.Proofs.YtnpcmmjdojdmnaaGreatDoor
open Go Go.ChangeShapes Go.WideShapes
set_option maxRecDepth 100000
theorem L_3 : (Tryz.f6.params.all (Tryz.prog.readableRec ·)) = true := by kernel_rfl
theorem L_4 : (namedTie Tryz.prog Rows.fnNetIPBackRow.named Rows.fnNetIPBackSpec.vars) = true := by kernel_rfl
theorem L_5 : ((Rows.fnNetIPBackRow.stops == [])) = true := by kernel_rfl
end Go.Proofs.YtnpcmmjdojdmnaaGreatDoor
namespace Go.Proofs.YtnpcmmjdojdmnaaGreatDoor
open Go Go.ChangeShapes Go.WideShapes
set_option maxRecDepth 100000
theorem L_6 : ((Tryz.prog.stops == [])) = true := by kernel_rfl
theorem L_7 : ((Rows.fnNetIPBackRow.knobs == [])) = true := by kernel_rfl
theorem L_8 : ((Tryz.prog.stopKnobs == [])) = true := by kernel_rfl
end Go.Proofs.YtnpcmmjdojdmnaaGreatDoor
namespace Go.Proofs.YtnpcmmjdojdmnaaGreatDoor
open Go Go.ChangeShapes Go.WideShapes
set_option maxRecDepth 100000
theorem L_15 : ((Rows.fnNetIPBackRow.mapsOut == Tryz.prog.mapsAmong Tryz.f6.resultTypes.toList)) = true := by kernel_rfl
theorem L_16 : ((Rows.fnNetIPBackRow.loops == (Tryz.f6.params.toList ++ Rows.fnNetIPBackSpec.plain.varTypes Tryz.prog).any (Tryz.prog.loopsFrom ·))) = true := by kernel_rfl
theorem L_17 : ((Rows.fnNetIPBackRow.wideKeys == (Tryz.f6.params.toList ++ Rows.fnNetIPBackSpec.plain.varTypes Tryz.prog ++ Tryz.f6.resultTypes.toList).any (Tryz.prog.wideKeysFrom ·))) = true := by kernel_rfl
end Go.Proofs.YtnpcmmjdojdmnaaGreatDoor
