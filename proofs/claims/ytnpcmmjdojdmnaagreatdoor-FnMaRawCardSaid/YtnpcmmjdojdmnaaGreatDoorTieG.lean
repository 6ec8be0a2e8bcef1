/- The tie: what it leaves reads as listed. -/
import Derived.Test.YtnpcmmjdojdmnaaGreatDoorTieD
namespace Go.Proofs.YtnpcmmjdojdmnaaGreatDoor
open Go
set_option maxRecDepth 100000
theorem tieH1 : ∀ os tape, (DataW.laidRun Tryz.prog (varsWorld Tryz.prog 400 (varsId Tryz.prog) os tape).memory 8 (laidFull.map (·.1))).map (·.1) = some laidFull := fun _ _ => by kernel_rfl
end Go.Proofs.YtnpcmmjdojdmnaaGreatDoor
