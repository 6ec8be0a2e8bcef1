/-
  DERIVED. GIVEN WITH THE SEED: THE CARDS: each row of YtnpcmmjdojdmnaaGreatDoorRows.lean that lists a variable, with what it lists TIED to the program's text (the seventh form; the later family's looks); each row that meets fmt, with fmt's text TOLD by the authors' own Lean function (tested against real Go, not proved from fmt's source: count such statements apart). THE CARD IS WHAT COUNTS. Prove the row's statement (the work); the ties are given (YtnpcmmjdojdmnaaGreatDoorTie.lean); close each card by the builder's one call (the guide's Derived/Test/ToyasCard.lean, 'card_holds'). Laid BY PROGRAM, IN A SANDBOX (cutbox-door.mjs). By AI agents, Wed Nov 11 2026. No macro, syntax, notation, axiom, sorry.
-/
import Derived.Test.YtnpcmmjdojdmnaaGreatDoorRows
import GoSem.ClaimSeven
namespace Go.Proofs.YtnpcmmjdojdmnaaGreatDoor
namespace Rows

/-- THE TIED CARD OF 'laws.FnMaComponents'. -/
def fnMaComponentsCard : Claim7 := { stood := { row := fnMaComponentsRow, standIns := [], harness := (true, "0a5937147ce94ea25efe8f85dbed384004e96ec10ecfeedd928b832da3901a90"), looks := true }, kinds := [], alts := [], laidByText := true, laidKinds := [.data, .data, .data, .sentinel, .sentinel, .sentinel, .pinned, .data, .sentinel, .data, .sentinel, .sentinel, .sentinel, .sentinel, .sentinel, .sentinel, .data, .data, .sentinel, .sentinel, .sentinel, .sentinel], laidTests := true, laidLooks := .later }
def FnMaComponentsCardSaid : Prop := Claim7.holds Tryz.pinned (.plain (OpenSpec.ofChange fnMaComponentsSpec)) fnMaComponentsCard

/-- THE TIED CARD OF 'laws.FnMaOne'. -/
def fnMaOneCard : Claim7 := { stood := { row := fnMaOneRow, standIns := [], harness := (true, "0a5937147ce94ea25efe8f85dbed384004e96ec10ecfeedd928b832da3901a90"), looks := true }, kinds := [], alts := [], laidByText := true, laidKinds := [.data, .data, .data, .sentinel, .sentinel, .sentinel, .pinned, .data, .sentinel, .data, .sentinel, .sentinel, .sentinel, .sentinel, .sentinel, .sentinel, .data, .data, .sentinel, .sentinel, .sentinel, .sentinel], laidTests := true, laidLooks := .later }
def FnMaOneCardSaid : Prop := Claim7.holds Tryz.pinned (.plain (OpenSpec.ofChange fnMaOneSpec)) fnMaOneCard

/-- THE TIED CARD OF 'laws.FnMaRaw'. -/
def fnMaRawCard : Claim7 := { stood := { row := fnMaRawRow, standIns := [], harness := (true, "0a5937147ce94ea25efe8f85dbed384004e96ec10ecfeedd928b832da3901a90"), looks := true }, kinds := [], alts := [], laidByText := true, laidKinds := [.data, .data, .data, .sentinel, .sentinel, .sentinel, .pinned, .data, .sentinel, .data, .sentinel, .sentinel, .sentinel, .sentinel, .sentinel, .sentinel, .data, .data, .sentinel, .sentinel, .sentinel, .sentinel], laidTests := true, laidLooks := .later }
def FnMaRawCardSaid : Prop := Claim7.holds Tryz.pinned (.plain (OpenSpec.ofChange fnMaRawSpec)) fnMaRawCard

/-- THE TIED CARD OF 'laws.FnNetIPBack'. -/
def fnNetIPBackCard : Claim7 := { stood := { row := fnNetIPBackRow, standIns := [], harness := (true, "0a5937147ce94ea25efe8f85dbed384004e96ec10ecfeedd928b832da3901a90"), looks := true }, kinds := [], alts := [], laidByText := true, laidKinds := [.data, .data, .data, .sentinel, .sentinel, .sentinel, .pinned, .data, .sentinel, .data, .sentinel, .sentinel, .sentinel, .sentinel, .sentinel, .sentinel, .data, .data, .sentinel, .sentinel, .sentinel, .sentinel, .sentinel], laidTests := true, laidLooks := .later }
def FnNetIPBackCardSaid : Prop := Claim7.holds Tryz.pinned (.plain (OpenSpec.ofChange fnNetIPBackSpec)) fnNetIPBackCard

/-- THE SECOND FORM's CARD OF 'laws.FnMaComponents'. -/
def fnMaComponentsUptoCard : Claim7 := { stood := { row := fnMaComponentsUptoRow, standIns := [], harness := (true, "0a5937147ce94ea25efe8f85dbed384004e96ec10ecfeedd928b832da3901a90"), looks := true }, kinds := [], alts := [], laidByText := true, laidKinds := [.data, .data, .data, .sentinel, .sentinel, .sentinel, .pinned, .data, .sentinel, .data, .sentinel, .sentinel, .sentinel, .sentinel, .sentinel, .sentinel, .data, .data, .sentinel, .sentinel, .sentinel, .sentinel], laidTests := true, laidLooks := .later }
def FnMaComponentsUptoCardSaid : Prop := Claim7.holds Tryz.pinned (.plain (OpenSpec.upto fnMaComponentsSpec)) fnMaComponentsUptoCard

/-- THE SECOND FORM's CARD OF 'laws.FnMaOne'. -/
def fnMaOneUptoCard : Claim7 := { stood := { row := fnMaOneUptoRow, standIns := [], harness := (true, "0a5937147ce94ea25efe8f85dbed384004e96ec10ecfeedd928b832da3901a90"), looks := true }, kinds := [], alts := [], laidByText := true, laidKinds := [.data, .data, .data, .sentinel, .sentinel, .sentinel, .pinned, .data, .sentinel, .data, .sentinel, .sentinel, .sentinel, .sentinel, .sentinel, .sentinel, .data, .data, .sentinel, .sentinel, .sentinel, .sentinel], laidTests := true, laidLooks := .later }
def FnMaOneUptoCardSaid : Prop := Claim7.holds Tryz.pinned (.plain (OpenSpec.upto fnMaOneSpec)) fnMaOneUptoCard

/-- THE SECOND FORM's CARD OF 'laws.FnMaRaw'. -/
def fnMaRawUptoCard : Claim7 := { stood := { row := fnMaRawUptoRow, standIns := [], harness := (true, "0a5937147ce94ea25efe8f85dbed384004e96ec10ecfeedd928b832da3901a90"), looks := true }, kinds := [], alts := [], laidByText := true, laidKinds := [.data, .data, .data, .sentinel, .sentinel, .sentinel, .pinned, .data, .sentinel, .data, .sentinel, .sentinel, .sentinel, .sentinel, .sentinel, .sentinel, .data, .data, .sentinel, .sentinel, .sentinel, .sentinel], laidTests := true, laidLooks := .later }
def FnMaRawUptoCardSaid : Prop := Claim7.holds Tryz.pinned (.plain (OpenSpec.upto fnMaRawSpec)) fnMaRawUptoCard

/-- THE SECOND FORM's CARD OF 'laws.FnNetIPBack'. -/
def fnNetIPBackUptoCard : Claim7 := { stood := { row := fnNetIPBackUptoRow, standIns := [], harness := (true, "0a5937147ce94ea25efe8f85dbed384004e96ec10ecfeedd928b832da3901a90"), looks := true }, kinds := [], alts := [], laidByText := true, laidKinds := [.data, .data, .data, .sentinel, .sentinel, .sentinel, .pinned, .data, .sentinel, .data, .sentinel, .sentinel, .sentinel, .sentinel, .sentinel, .sentinel, .data, .data, .sentinel, .sentinel, .sentinel, .sentinel, .sentinel], laidTests := true, laidLooks := .later }
def FnNetIPBackUptoCardSaid : Prop := Claim7.holds Tryz.pinned (.plain (OpenSpec.upto fnNetIPBackSpec)) fnNetIPBackUptoCard
end Rows
end Go.Proofs.YtnpcmmjdojdmnaaGreatDoor
