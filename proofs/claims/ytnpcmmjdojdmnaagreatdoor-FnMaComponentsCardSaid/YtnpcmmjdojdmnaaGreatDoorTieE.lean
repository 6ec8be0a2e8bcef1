/- The tie: the door's function lays the list in order. -/
import Derived.Test.YtnpcmmjdojdmnaaGreatDoorTieD
namespace Go.Proofs.YtnpcmmjdojdmnaaGreatDoor
open Go
set_option maxRecDepth 100000
theorem tieNF : varsNamedLaterB Tryz.prog (varsId Tryz.prog) laidFull = true := by kernel_rfl
end Go.Proofs.YtnpcmmjdojdmnaaGreatDoor
