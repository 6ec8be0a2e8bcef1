/- The closed facts of a row, joined. -/
import Derived.Test.YtnpcmmjdojdmnaaGreatDoorJa
import Derived.Test.YtnpcmmjdojdmnaaGreatDoorJb
import Derived.Test.YtnpcmmjdojdmnaaGreatDoorJc
import Derived.Test.YtnpcmmjdojdmnaaGreatDoorJd
import Derived.Test.YtnpcmmjdojdmnaaGreatDoorJe
import Derived.Test.YtnpcmmjdojdmnaaGreatDoorJf
import Derived.Test.YtnpcmmjdojdmnaaGreatDoorJg
import Derived.Test.YtnpcmmjdojdmnaaGreatDoorJh
import Derived.Test.YtnpcmmjdojdmnaaGreatDoorJi
import Derived.Test.YtnpcmmjdojdmnaaGreatDoorJj
import Derived.Test.YtnpcmmjdojdmnaaGreatDoorJk
namespace Go.Proofs.YtnpcmmjdojdmnaaGreatDoor
open Go Go.ChangeShapes Go.WideShapes
set_option maxRecDepth 100000
theorem band {a b : Bool} (h : a = true) (k : b = true) : (a && b) = true := by rw [h, k]; rfl
theorem J_all : joinedFacts Tryz.prog 3 Tryz.f3 Rows.fnMaComponentsSpec Rows.fnMaComponentsRow = true := by
  unfold joinedFacts
  exact (band (band (band (band (band (band (band (band (band (band (band (band (band (band (band (band (band (band (band (band (band (band (band (band (band (band (band (band (band (band (band J_0 J_1) J_2) J_3) J_4) J_5) J_6) J_7) J_8) J_9) J_10) J_11) J_12) J_13) J_14) J_15) J_16) J_17) J_18) J_19) J_20) J_21) J_22) J_23) J_24) J_25) J_26) J_27) J_28) J_29) J_30) J_31)
end Go.Proofs.YtnpcmmjdojdmnaaGreatDoor
