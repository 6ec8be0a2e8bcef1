/- Closed facts of the card. Closed facts of the card. -/
import Derived.Test.YtnpcmmjdojdmnaaGreatDoorRows
import Derived.SevenTiedAt
namespace Go.Proofs.YtnpcmmjdojdmnaaGreatDoor
open Go
set_option maxRecDepth 100000
theorem K_wf : Rows.fnMaComponentsRow.wfByText (OpenSpec.ofChange Rows.fnMaComponentsSpec) = true := by kernel_rfl
theorem K_main : Tryz.pinned.checked.prog.mainIs = some (true, "0a5937147ce94ea25efe8f85dbed384004e96ec10ecfeedd928b832da3901a90".toList) := by kernel_rfl
end Go.Proofs.YtnpcmmjdojdmnaaGreatDoor
namespace Go.Proofs.YtnpcmmjdojdmnaaGreatDoor
open Go
set_option maxRecDepth 100000
theorem K_looks : true = Tryz.pinned.checked.prog.looks [] := by kernel_rfl
theorem K_stand : ([24, 24].all fun u => !Tryz.prog.wantsStandIn u) = true := by kernel_rfl
theorem K_named : Tryz.prog.funcNamed "pub-brocade/laws.FnMaComponents" = some 3 := by kernel_rfl
end Go.Proofs.YtnpcmmjdojdmnaaGreatDoor
