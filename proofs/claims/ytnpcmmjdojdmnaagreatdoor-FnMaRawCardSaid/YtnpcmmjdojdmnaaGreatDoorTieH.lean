/- The tie: the places are distinct. -/
import Derived.Test.YtnpcmmjdojdmnaaGreatDoorTieD
import Derived.LaidOnce
namespace Go.Proofs.YtnpcmmjdojdmnaaGreatDoor
open Go
set_option maxRecDepth 100000
theorem tieH2a : ∀ os tape, (DataW.laidRun Tryz.prog (varsWorld Tryz.prog 400 (varsId Tryz.prog) os tape).memory 8 (laidFull.map (·.1))).map (fun x => nodupBits 257 x.2 0) = some true := fun _ _ => by kernel_rfl
end Go.Proofs.YtnpcmmjdojdmnaaGreatDoor
