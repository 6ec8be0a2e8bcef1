/- The tie: the rows lie as they are laid (the rest). The tie: the rows lie as they are laid (the middle). -/
import Derived.Test.YtnpcmmjdojdmnaaGreatDoorTieD
import Derived.LaidOnce
namespace Go.Proofs.YtnpcmmjdojdmnaaGreatDoor
open Go
set_option maxRecDepth 100000
theorem tieH2c : ∀ os tape, (DataW.laidRun Tryz.prog (varsWorld Tryz.prog 400 (varsId Tryz.prog) os tape).memory 8 ((laidFull.drop 9).map (·.1))).map (fun x => laidRowsB Tryz.prog (varsWorld Tryz.prog 400 (varsId Tryz.prog) os tape).memory x.2) = some true := fun _ _ => by kernel_rfl
end Go.Proofs.YtnpcmmjdojdmnaaGreatDoor
namespace Go.Proofs.YtnpcmmjdojdmnaaGreatDoor
open Go
set_option maxRecDepth 100000
theorem tieH2d : ∀ os tape, (DataW.laidRun Tryz.prog (varsWorld Tryz.prog 400 (varsId Tryz.prog) os tape).memory 8 (((laidFull.drop 7).take 2).map (·.1))).map (fun x => laidRowsB Tryz.prog (varsWorld Tryz.prog 400 (varsId Tryz.prog) os tape).memory x.2) = some true := fun _ _ => by kernel_rfl
end Go.Proofs.YtnpcmmjdojdmnaaGreatDoor
