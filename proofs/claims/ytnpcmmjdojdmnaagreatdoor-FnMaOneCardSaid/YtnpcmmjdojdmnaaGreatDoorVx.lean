/- Closed facts of a row. Closed facts of a row. Closed facts of a row. -/
import Derived.Test.YtnpcmmjdojdmnaaGreatDoorRows
import Derived.JoinedOf
namespace Go.Proofs.YtnpcmmjdojdmnaaGreatDoor
open Go Go.ChangeShapes Go.WideShapes
set_option maxRecDepth 100000
theorem V_3 : (Tryz.f4.params.all (Tryz.prog.readableRec ·)) = true := by kernel_rfl
theorem V_4 : (namedTie Tryz.prog Rows.fnMaOneRow.named Rows.fnMaOneSpec.vars) = true := by kernel_rfl
theorem V_5 : ((Rows.fnMaOneRow.stops == [])) = true := by kernel_rfl
end Go.Proofs.YtnpcmmjdojdmnaaGreatDoor
namespace Go.Proofs.YtnpcmmjdojdmnaaGreatDoor
open Go Go.ChangeShapes Go.WideShapes
set_option maxRecDepth 100000
theorem V_6 : ((Tryz.prog.stops == [])) = true := by kernel_rfl
theorem V_7 : ((Rows.fnMaOneRow.knobs == [])) = true := by kernel_rfl
theorem V_8 : ((Tryz.prog.stopKnobs == [])) = true := by kernel_rfl
end Go.Proofs.YtnpcmmjdojdmnaaGreatDoor
namespace Go.Proofs.YtnpcmmjdojdmnaaGreatDoor
open Go Go.ChangeShapes Go.WideShapes
set_option maxRecDepth 100000
theorem V_15 : ((Rows.fnMaOneRow.mapsOut == Tryz.prog.mapsAmong Tryz.f4.resultTypes.toList)) = true := by kernel_rfl
theorem V_16 : ((Rows.fnMaOneRow.loops == (Tryz.f4.params.toList ++ Rows.fnMaOneSpec.plain.varTypes Tryz.prog).any (Tryz.prog.loopsFrom ·))) = true := by kernel_rfl
theorem V_17 : ((Rows.fnMaOneRow.wideKeys == (Tryz.f4.params.toList ++ Rows.fnMaOneSpec.plain.varTypes Tryz.prog ++ Tryz.f4.resultTypes.toList).any (Tryz.prog.wideKeysFrom ·))) = true := by kernel_rfl
end Go.Proofs.YtnpcmmjdojdmnaaGreatDoor
