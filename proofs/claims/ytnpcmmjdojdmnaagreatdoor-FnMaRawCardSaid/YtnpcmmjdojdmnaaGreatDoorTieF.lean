/- The tie: the door's function lays the list in order. The tie: the door's function runs to its end. -/
import Derived.Test.YtnpcmmjdojdmnaaGreatDoorTieD
namespace Go.Proofs.YtnpcmmjdojdmnaaGreatDoor
open Go
set_option maxRecDepth 100000
theorem tieNF : varsNamedLaterB Tryz.prog (varsId Tryz.prog) laidFull = true := by kernel_rfl
end Go.Proofs.YtnpcmmjdojdmnaaGreatDoor
namespace Go.Proofs.YtnpcmmjdojdmnaaGreatDoor
open Go
set_option maxRecDepth 100000
theorem tieHD : ∀ os tape, varsDone Tryz.prog 400 (varsId Tryz.prog) os tape = true := fun _ _ => by kernel_rfl
end Go.Proofs.YtnpcmmjdojdmnaaGreatDoor
