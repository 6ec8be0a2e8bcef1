/- The closed facts of a row, joined. -/
import Derived.Test.YtnpcmmjdojdmnaaGreatDoorWa
import Derived.Test.YtnpcmmjdojdmnaaGreatDoorWx
import Derived.Test.YtnpcmmjdojdmnaaGreatDoorWx
import Derived.Test.YtnpcmmjdojdmnaaGreatDoorWd
import Derived.Test.YtnpcmmjdojdmnaaGreatDoorWe
import Derived.Test.YtnpcmmjdojdmnaaGreatDoorWx
import Derived.Test.YtnpcmmjdojdmnaaGreatDoorWy
import Derived.Test.YtnpcmmjdojdmnaaGreatDoorWy
import Derived.Test.YtnpcmmjdojdmnaaGreatDoorWi
import Derived.Test.YtnpcmmjdojdmnaaGreatDoorWy
import Derived.Test.YtnpcmmjdojdmnaaGreatDoorWy
namespace Go.Proofs.YtnpcmmjdojdmnaaGreatDoor
open Go Go.ChangeShapes Go.WideShapes
set_option maxRecDepth 100000
theorem band {a b : Bool} (h : a = true) (k : b = true) : (a && b) = true := by rw [h, k]; rfl
theorem W_all : joinedFacts Tryz.prog 5 Tryz.f5 Rows.fnMaRawSpec Rows.fnMaRawRow = true := by
  unfold joinedFacts
  exact (band (band (band (band (band (band (band (band (band (band (band (band (band (band (band (band (band (band (band (band (band (band (band (band (band (band (band (band (band (band (band W_0 W_1) W_2) W_3) W_4) W_5) W_6) W_7) W_8) W_9) W_10) W_11) W_12) W_13) W_14) W_15) W_16) W_17) W_18) W_19) W_20) W_21) W_22) W_23) W_24) W_25) W_26) W_27) W_28) W_29) W_30) W_31)
end Go.Proofs.YtnpcmmjdojdmnaaGreatDoor
