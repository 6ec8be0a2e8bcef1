/- The closed facts of a row, joined. -/
import Derived.Test.YtnpcmmjdojdmnaaGreatDoorVa
import Derived.Test.YtnpcmmjdojdmnaaGreatDoorVx
import Derived.Test.YtnpcmmjdojdmnaaGreatDoorVx
import Derived.Test.YtnpcmmjdojdmnaaGreatDoorVd
import Derived.Test.YtnpcmmjdojdmnaaGreatDoorVe
import Derived.Test.YtnpcmmjdojdmnaaGreatDoorVx
import Derived.Test.YtnpcmmjdojdmnaaGreatDoorVy
import Derived.Test.YtnpcmmjdojdmnaaGreatDoorVy
import Derived.Test.YtnpcmmjdojdmnaaGreatDoorVi
import Derived.Test.YtnpcmmjdojdmnaaGreatDoorVy
import Derived.Test.YtnpcmmjdojdmnaaGreatDoorVy
namespace Go.Proofs.YtnpcmmjdojdmnaaGreatDoor
open Go Go.ChangeShapes Go.WideShapes
set_option maxRecDepth 100000
theorem band {a b : Bool} (h : a = true) (k : b = true) : (a && b) = true := by rw [h, k]; rfl
theorem V_all : joinedFacts Tryz.prog 4 Tryz.f4 Rows.fnMaOneSpec Rows.fnMaOneRow = true := by
  unfold joinedFacts
  exact (band (band (band (band (band (band (band (band (band (band (band (band (band (band (band (band (band (band (band (band (band (band (band (band (band (band (band (band (band (band (band V_0 V_1) V_2) V_3) V_4) V_5) V_6) V_7) V_8) V_9) V_10) V_11) V_12) V_13) V_14) V_15) V_16) V_17) V_18) V_19) V_20) V_21) V_22) V_23) V_24) V_25) V_26) V_27) V_28) V_29) V_30) V_31)
end Go.Proofs.YtnpcmmjdojdmnaaGreatDoor
