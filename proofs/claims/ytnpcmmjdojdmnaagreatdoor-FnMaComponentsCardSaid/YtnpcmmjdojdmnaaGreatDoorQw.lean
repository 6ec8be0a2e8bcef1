/- FnMaComponents: the tied card. -/
import Derived.Test.YtnpcmmjdojdmnaaGreatDoorQv
import Derived.Test.YtnpcmmjdojdmnaaGreatDoorTieM
import Derived.Test.YtnpcmmjdojdmnaaGreatDoorCards
import Derived.Test.YtnpcmmjdojdmnaaGreatDoorKa
import Derived.Test.YtnpcmmjdojdmnaaGreatDoorKb
import Derived.Test.YtnpcmmjdojdmnaaGreatDoorKc
namespace Go.Proofs.YtnpcmmjdojdmnaaGreatDoor
open Go Go.ChangeShapes Go.WideShapes Go.ChangeAt Go.RowKit

theorem fnMaComponents_card : Rows.FnMaComponentsCardSaid :=
  Claim7.holds_tied_plain_at .later [] [.data, .data, .data, .sentinel, .sentinel, .sentinel, .pinned, .data, .sentinel, .data, .sentinel, .sentinel, .sentinel, .sentinel, .sentinel, .sentinel, .data, .data, .sentinel, .sentinel, .sentinel, .sentinel] true (true, "0a5937147ce94ea25efe8f85dbed384004e96ec10ecfeedd928b832da3901a90") true
    fnMaComponents_holds (fun _ h => by cases h) K_wf (fun _ h => by cases h) fnMaComponents_row_tie rfl ⟨rfl, rfl⟩ K_main rfl
    (fun f fn hf hfn => by
      obtain rfl : f = 3 := Option.some.inj (K_named.symm.trans hf) |>.symm
      obtain rfl : fn = Tryz.f3 := (Option.some.inj (Tryz.func3.symm.trans hfn)).symm
      exact ⟨K_looks, fun j t ht => by
        rw [Tryz.params3] at ht
        have hm : t ∈ [24, 24] := by simpa using Array.mem_of_getElem? ht
        exact (show Tryz.prog.wantsStandIn t = false by simpa using List.all_eq_true.1 K_stand t hm)⟩)
    K_goes
#print axioms fnMaComponents_card
end Go.Proofs.YtnpcmmjdojdmnaaGreatDoor
