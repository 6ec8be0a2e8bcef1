/- FnMaRaw: the row holds. FnMaRaw: the tied card. -/
import Derived.Test.YtnpcmmjdojdmnaaGreatDoorTo
import Derived.Test.YtnpcmmjdojdmnaaGreatDoorW
import Derived.Test.YtnpcmmjdojdmnaaGreatDoorTieL
import Derived.Test.YtnpcmmjdojdmnaaGreatDoorCards
import Derived.Test.YtnpcmmjdojdmnaaGreatDoorKa
import Derived.Test.YtnpcmmjdojdmnaaGreatDoorKc
namespace Go.Proofs.YtnpcmmjdojdmnaaGreatDoor
open Go Go.ChangeShapes Go.WideShapes Go.ChangeAt Go.WideElems Go.RowKit

set_option maxRecDepth 100000 in
theorem fnMaRaw_holds : Rows.FnMaRawSaid :=
  OpenClaim.holds_of_wide 5 Tryz.f5 rfl rfl rfl rfl rfl rfl rfl ⟨rfl, rfl, rfl, rfl, rfl⟩ rfl rfl rfl rfl rfl (by kernel_rfl) Tryz.func5 W_all
    (of_decide_eq_true (by kernel_rfl)) (by unfold Func.isWrapper; first | (rw [if_pos (by decide +kernel)]; kernel_rfl) | (rw [if_neg (by decide +kernel)]; exact ⟨rfl, rfl⟩))
    (fun os started H enc _ => liftedMaRaw os started H enc)
end Go.Proofs.YtnpcmmjdojdmnaaGreatDoor
namespace Go.Proofs.YtnpcmmjdojdmnaaGreatDoor
open Go Go.ChangeShapes Go.WideShapes Go.ChangeAt Go.RowKit

theorem fnMaRaw_card : Rows.FnMaRawCardSaid :=
  Claim7.holds_tied_plain_at .later [] [.data, .data, .data, .sentinel, .sentinel, .sentinel, .pinned, .data, .sentinel, .data, .sentinel, .sentinel, .sentinel, .sentinel, .sentinel, .sentinel, .data, .data, .sentinel, .sentinel, .sentinel, .sentinel] true (true, "0a5937147ce94ea25efe8f85dbed384004e96ec10ecfeedd928b832da3901a90") true
    fnMaRaw_holds (fun _ h => by cases h) KP_wf (fun _ h => by cases h) fnMaRaw_row_tie rfl ⟨rfl, rfl⟩ K_main rfl
    (fun f fn hf hfn => by
      obtain rfl : f = 5 := Option.some.inj (KP_named.symm.trans hf) |>.symm
      obtain rfl : fn = Tryz.f5 := (Option.some.inj (Tryz.func5.symm.trans hfn)).symm
      exact ⟨K_looks, fun j t ht => by
        rw [Tryz.params5] at ht
        have hm : t ∈ [22] := by simpa using Array.mem_of_getElem? ht
        exact (show Tryz.prog.wantsStandIn t = false by simpa using List.all_eq_true.1 KP_stand t hm)⟩)
    (goesBy_none _ K_none _)
#print axioms fnMaRaw_card
end Go.Proofs.YtnpcmmjdojdmnaaGreatDoor
