/- FnMaComponents: the row holds. -/
import Derived.Test.YtnpcmmjdojdmnaaGreatDoorQu
import Derived.Test.YtnpcmmjdojdmnaaGreatDoorJ
namespace Go.Proofs.YtnpcmmjdojdmnaaGreatDoor
open Go Go.ChangeShapes Go.WideShapes Go.ChangeAt Go.WideElems Go.RowKit

set_option maxRecDepth 100000 in
theorem fnMaComponents_holds : Rows.FnMaComponentsSaid :=
  OpenClaim.holds_of_wide 3 Tryz.f3 rfl rfl rfl rfl rfl rfl rfl ⟨rfl, rfl, rfl, rfl, rfl⟩ rfl rfl rfl rfl rfl (by kernel_rfl) Tryz.func3 J_all
    (of_decide_eq_true (by kernel_rfl)) (by unfold Func.isWrapper; first | (rw [if_pos (by decide +kernel)]; kernel_rfl) | (rw [if_neg (by decide +kernel)]; exact ⟨rfl, rfl⟩))
    (fun os started H enc _ => lifted os started H enc)
end Go.Proofs.YtnpcmmjdojdmnaaGreatDoor
