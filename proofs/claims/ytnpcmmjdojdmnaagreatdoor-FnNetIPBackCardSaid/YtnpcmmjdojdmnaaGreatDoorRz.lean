/- FnNetIPBack: the row holds. FnNetIPBack: the tied card. -/
import Derived.Test.YtnpcmmjdojdmnaaGreatDoorRm
import Derived.Test.YtnpcmmjdojdmnaaGreatDoorL
import Derived.Test.YtnpcmmjdojdmnaaGreatDoorTieNM
import Derived.Test.YtnpcmmjdojdmnaaGreatDoorCards
import Derived.Test.YtnpcmmjdojdmnaaGreatDoorKa
import Derived.Test.YtnpcmmjdojdmnaaGreatDoorKNa
import Derived.Test.YtnpcmmjdojdmnaaGreatDoorKb
import Derived.Test.YtnpcmmjdojdmnaaGreatDoorKc
namespace Go.Proofs.YtnpcmmjdojdmnaaGreatDoor
open Go Go.ChangeShapes Go.WideShapes Go.ChangeAt Go.WideElems Go.RowKit

set_option maxRecDepth 100000 in
theorem fnNetIPBack_holds : Rows.FnNetIPBackSaid :=
  OpenClaim.holds_of_wide 6 Tryz.f6 rfl rfl rfl rfl rfl rfl rfl ⟨rfl, rfl, rfl, rfl, rfl⟩ rfl rfl rfl rfl rfl (by kernel_rfl) Tryz.func6 L_all
    (of_decide_eq_true (by kernel_rfl)) (by unfold Func.isWrapper; first | (rw [if_pos (by decide +kernel)]; kernel_rfl) | (rw [if_neg (by decide +kernel)]; exact ⟨rfl, rfl⟩))
    (fun os started H enc _ => liftedN os started H enc)
end Go.Proofs.YtnpcmmjdojdmnaaGreatDoor
namespace Go.Proofs.YtnpcmmjdojdmnaaGreatDoor
open Go Go.ChangeShapes Go.WideShapes Go.ChangeAt Go.RowKit

theorem fnNetIPBack_card : Rows.FnNetIPBackCardSaid :=
  Claim7.holds_tied_plain_at .later [] [.data, .data, .data, .sentinel, .sentinel, .sentinel, .pinned, .data, .sentinel, .data, .sentinel, .sentinel, .sentinel, .sentinel, .sentinel, .sentinel, .data, .data, .sentinel, .sentinel, .sentinel, .sentinel, .sentinel] true (true, "0a5937147ce94ea25efe8f85dbed384004e96ec10ecfeedd928b832da3901a90") true
    fnNetIPBack_holds (fun _ h => by cases h) KN_wf (fun _ h => by cases h) fnNetIPBack_row_tie rfl ⟨rfl, rfl⟩ K_main rfl
    (fun f fn hf hfn => by
      obtain rfl : f = 6 := Option.some.inj (KN_named.symm.trans hf) |>.symm
      obtain rfl : fn = Tryz.f6 := (Option.some.inj (Tryz.func6.symm.trans hfn)).symm
      exact ⟨K_looks, fun j t ht => by
        rw [Tryz.params6] at ht
        have hm : t ∈ [22] := by simpa using Array.mem_of_getElem? ht
        exact (show Tryz.prog.wantsStandIn t = false by simpa using List.all_eq_true.1 KN_stand t hm)⟩)
    (goesBy_none _ K_none _)
#print axioms fnNetIPBack_card
end Go.Proofs.YtnpcmmjdojdmnaaGreatDoor
