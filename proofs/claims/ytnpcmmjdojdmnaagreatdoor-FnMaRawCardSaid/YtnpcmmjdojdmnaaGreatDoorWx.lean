/- Closed facts of a row. Closed facts of a row. Closed facts of a row. -/
import Derived.Test.YtnpcmmjdojdmnaaGreatDoorRows
import Derived.JoinedOf
namespace Go.Proofs.YtnpcmmjdojdmnaaGreatDoor
open Go Go.ChangeShapes Go.WideShapes
set_option maxRecDepth 100000
theorem W_3 : (Tryz.f5.params.all (Tryz.prog.readableRec ·)) = true := by kernel_rfl
theorem W_4 : (namedTie Tryz.prog Rows.fnMaRawRow.named Rows.fnMaRawSpec.vars) = true := by kernel_rfl
theorem W_5 : ((Rows.fnMaRawRow.stops == [])) = true := by kernel_rfl
end Go.Proofs.YtnpcmmjdojdmnaaGreatDoor
namespace Go.Proofs.YtnpcmmjdojdmnaaGreatDoor
open Go Go.ChangeShapes Go.WideShapes
set_option maxRecDepth 100000
theorem W_6 : ((Tryz.prog.stops == [])) = true := by kernel_rfl
theorem W_7 : ((Rows.fnMaRawRow.knobs == [])) = true := by kernel_rfl
theorem W_8 : ((Tryz.prog.stopKnobs == [])) = true := by kernel_rfl
end Go.Proofs.YtnpcmmjdojdmnaaGreatDoor
namespace Go.Proofs.YtnpcmmjdojdmnaaGreatDoor
open Go Go.ChangeShapes Go.WideShapes
set_option maxRecDepth 100000
theorem W_15 : ((Rows.fnMaRawRow.mapsOut == Tryz.prog.mapsAmong Tryz.f5.resultTypes.toList)) = true := by kernel_rfl
theorem W_16 : ((Rows.fnMaRawRow.loops == (Tryz.f5.params.toList ++ Rows.fnMaRawSpec.plain.varTypes Tryz.prog).any (Tryz.prog.loopsFrom ·))) = true := by kernel_rfl
theorem W_17 : ((Rows.fnMaRawRow.wideKeys == (Tryz.f5.params.toList ++ Rows.fnMaRawSpec.plain.varTypes Tryz.prog ++ Tryz.f5.resultTypes.toList).any (Tryz.prog.wideKeysFrom ·))) = true := by kernel_rfl
end Go.Proofs.YtnpcmmjdojdmnaaGreatDoor
