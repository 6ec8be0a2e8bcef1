/- The card's closed fact: no function of the program starts a goroutine. Closed facts of the card of FnMaRaw. -/
import Derived.Test.YtnpcmmjdojdmnaaGreatDoorRows
import Derived.SevenTiedAt
namespace Go.Proofs.YtnpcmmjdojdmnaaGreatDoor
open Go
set_option maxRecDepth 100000
theorem goes_none (P : Program) (h : P.funcs.any Func.goes = false) (f : FuncId) : P.goes f = false := by
  have hg : ∀ g : Nat, (P.funcs[g]?).any Func.goes = false := by
    intro g
    cases hq : P.funcs[g]? with
    | none => rfl
    | some fn =>
      cases hf : fn.goes with
      | false => simp [hf]
      | true =>
        obtain ⟨hlt, he⟩ := Array.getElem?_eq_some_iff.1 hq
        have : P.funcs.any Func.goes = true := Array.any_eq_true.2 ⟨g, hlt, by rw [he]; exact hf⟩
        rw [h] at this; cases this
  unfold Program.goes
  rw [h, Bool.and_false, Bool.or_false, List.any_eq_false]
  intro g _
  have := hg g
  simp [this]
theorem goesBy_none (P : Program) (h : P.funcs.any Func.goes = false) (c : OpenClaim) : false = c.goesBy P := by
  have hG := goes_none P h
  have h1 : P.goesFrom c.func = false := by
    unfold Program.goesFrom
    cases P.funcNamed c.func <;> simp [hG]
  have h2 : P.inits.toList.any P.goes = false := by simp [hG]
  unfold OpenClaim.goesBy Program.goesAt
  rw [h1, h2]
  cases c.start <;> rfl
theorem K_none : Tryz.pinned.checked.prog.funcs.any Func.goes = false := by kernel_rfl
theorem K_goes : false = Rows.fnMaComponentsRow.goesBy Tryz.pinned.checked.prog := goesBy_none _ K_none _
end Go.Proofs.YtnpcmmjdojdmnaaGreatDoor
namespace Go.Proofs.YtnpcmmjdojdmnaaGreatDoor
open Go
set_option maxRecDepth 100000
theorem KP_wf : Rows.fnMaRawRow.wfByText (OpenSpec.ofChange Rows.fnMaRawSpec) = true := by kernel_rfl
theorem KP_stand : ([22].all fun u => !Tryz.prog.wantsStandIn u) = true := by kernel_rfl
theorem KP_named : Tryz.prog.funcNamed "pub-brocade/laws.FnMaRaw" = some 5 := by kernel_rfl
end Go.Proofs.YtnpcmmjdojdmnaaGreatDoor
