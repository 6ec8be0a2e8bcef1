/- The tie: what it leaves reads as listed. -/
import Derived.Test.YtnpcmmjdojdmnaaGreatDoorTieND
namespace Go.Proofs.YtnpcmmjdojdmnaaGreatDoor
open Go
set_option maxRecDepth 100000
theorem tieH1N : ∀ os tape, (DataW.laidRun Tryz.prog (varsWorld Tryz.prog 400 (varsId Tryz.prog) os tape).memory 8 (laidFullN.map (·.1))).map (·.1) = some laidFullN := fun _ _ => by kernel_rfl
end Go.Proofs.YtnpcmmjdojdmnaaGreatDoor
