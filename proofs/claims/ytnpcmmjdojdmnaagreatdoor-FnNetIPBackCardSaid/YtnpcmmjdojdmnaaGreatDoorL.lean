/- The closed facts of a row, joined. -/
import Derived.Test.YtnpcmmjdojdmnaaGreatDoorLa
import Derived.Test.YtnpcmmjdojdmnaaGreatDoorLx
import Derived.Test.YtnpcmmjdojdmnaaGreatDoorLx
import Derived.Test.YtnpcmmjdojdmnaaGreatDoorLd
import Derived.Test.YtnpcmmjdojdmnaaGreatDoorLe
import Derived.Test.YtnpcmmjdojdmnaaGreatDoorLx
import Derived.Test.YtnpcmmjdojdmnaaGreatDoorLy
import Derived.Test.YtnpcmmjdojdmnaaGreatDoorLy
import Derived.Test.YtnpcmmjdojdmnaaGreatDoorLi
import Derived.Test.YtnpcmmjdojdmnaaGreatDoorLy
import Derived.Test.YtnpcmmjdojdmnaaGreatDoorLy
namespace Go.Proofs.YtnpcmmjdojdmnaaGreatDoor
open Go Go.ChangeShapes Go.WideShapes
set_option maxRecDepth 100000
theorem band {a b : Bool} (h : a = true) (k : b = true) : (a && b) = true := by rw [h, k]; rfl
theorem L_all : joinedFacts Tryz.prog 6 Tryz.f6 Rows.fnNetIPBackSpec Rows.fnNetIPBackRow = true := by
  unfold joinedFacts
  exact (band (band (band (band (band (band (band (band (band (band (band (band (band (band (band (band (band (band (band (band (band (band (band (band (band (band (band (band (band (band (band L_0 L_1) L_2) L_3) L_4) L_5) L_6) L_7) L_8) L_9) L_10) L_11) L_12) L_13) L_14) L_15) L_16) L_17) L_18) L_19) L_20) L_21) L_22) L_23) L_24) L_25) L_26) L_27) L_28) L_29) L_30) L_31)
end Go.Proofs.YtnpcmmjdojdmnaaGreatDoor
