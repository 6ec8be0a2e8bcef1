/- The tie: the door's function lays the list in order. -/
import Derived.Test.YtnpcmmjdojdmnaaGreatDoorTieND
namespace Go.Proofs.YtnpcmmjdojdmnaaGreatDoor
open Go
set_option maxRecDepth 100000
theorem tieNFN : varsNamedLaterB Tryz.prog (varsId Tryz.prog) laidFullN = true := by kernel_rfl
end Go.Proofs.YtnpcmmjdojdmnaaGreatDoor
