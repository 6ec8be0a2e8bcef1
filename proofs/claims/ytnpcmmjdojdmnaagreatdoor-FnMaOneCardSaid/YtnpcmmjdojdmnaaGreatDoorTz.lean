/- FnMaOne: the row holds. FnMaOne: the tied card. -/
import Derived.Test.YtnpcmmjdojdmnaaGreatDoorSs
import Derived.Test.YtnpcmmjdojdmnaaGreatDoorV
import Derived.Test.YtnpcmmjdojdmnaaGreatDoorTieL
import Derived.Test.YtnpcmmjdojdmnaaGreatDoorCards
import Derived.Test.YtnpcmmjdojdmnaaGreatDoorKa
import Derived.Test.YtnpcmmjdojdmnaaGreatDoorKc
namespace Go.Proofs.YtnpcmmjdojdmnaaGreatDoor
open Go Go.ChangeShapes Go.WideShapes Go.ChangeAt Go.WideElems Go.RowKit

set_option maxRecDepth 100000 in
theorem fnMaOne_holds : Rows.FnMaOneSaid :=
  OpenClaim.holds_of_wide 4 Tryz.f4 rfl rfl rfl rfl rfl rfl rfl ⟨rfl, rfl, rfl, rfl, rfl⟩ rfl rfl rfl rfl rfl (by kernel_rfl) Tryz.func4 V_all
    (of_decide_eq_true (by kernel_rfl)) (by unfold Func.isWrapper; first | (rw [if_pos (by decide +kernel)]; kernel_rfl) | (rw [if_neg (by decide +kernel)]; exact ⟨rfl, rfl⟩))
    (fun os started H enc _ => liftedMaOne os started H enc)
end Go.Proofs.YtnpcmmjdojdmnaaGreatDoor
namespace Go.Proofs.YtnpcmmjdojdmnaaGreatDoor
open Go Go.ChangeShapes Go.WideShapes Go.ChangeAt Go.RowKit

theorem fnMaOne_card : Rows.FnMaOneCardSaid :=
  Claim7.holds_tied_plain_at .later [] [.data, .data, .data, .sentinel, .sentinel, .sentinel, .pinned, .data, .sentinel, .data, .sentinel, .sentinel, .sentinel, .sentinel, .sentinel, .sentinel, .data, .data, .sentinel, .sentinel, .sentinel, .sentinel] true (true, "0a5937147ce94ea25efe8f85dbed384004e96ec10ecfeedd928b832da3901a90") true
    fnMaOne_holds (fun _ h => by cases h) KO_wf (fun _ h => by cases h) fnMaOne_row_tie rfl ⟨rfl, rfl⟩ K_main rfl
    (fun f fn hf hfn => by
      obtain rfl : f = 4 := Option.some.inj (KO_named.symm.trans hf) |>.symm
      obtain rfl : fn = Tryz.f4 := (Option.some.inj (Tryz.func4.symm.trans hfn)).symm
      exact ⟨K_looks, fun j t ht => by
        rw [Tryz.params4] at ht
        have hm : t ∈ [22] := by simpa using Array.mem_of_getElem? ht
        exact (show Tryz.prog.wantsStandIn t = false by simpa using List.all_eq_true.1 KO_stand t hm)⟩)
    (goesBy_none _ K_none _)
#print axioms fnMaOne_card
end Go.Proofs.YtnpcmmjdojdmnaaGreatDoor
