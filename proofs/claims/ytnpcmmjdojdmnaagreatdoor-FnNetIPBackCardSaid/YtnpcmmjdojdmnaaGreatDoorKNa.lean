/- Closed facts of the card of FnNetIPBack. -/
import Derived.Test.YtnpcmmjdojdmnaaGreatDoorRows
import Derived.SevenTiedAt
namespace Go.Proofs.YtnpcmmjdojdmnaaGreatDoor
open Go
set_option maxRecDepth 100000
theorem KN_wf : Rows.fnNetIPBackRow.wfByText (OpenSpec.ofChange Rows.fnNetIPBackSpec) = true := by kernel_rfl
theorem KN_stand : ([22].all fun u => !Tryz.prog.wantsStandIn u) = true := by kernel_rfl
theorem KN_named : Tryz.prog.funcNamed "pub-brocade/laws.FnNetIPBack" = some 6 := by kernel_rfl
end Go.Proofs.YtnpcmmjdojdmnaaGreatDoor
