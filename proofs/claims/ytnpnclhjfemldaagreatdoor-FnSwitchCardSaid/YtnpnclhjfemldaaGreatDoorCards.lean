/-
  DERIVED. GIVEN WITH THE SEED: THE CARDS: each row of YtnpnclhjfemldaaGreatDoorRows.lean that lists a variable, with what it lists TIED to the program's text (the seventh form; the later family's looks); each row that meets fmt, with fmt's text TOLD by the authors' own Lean function (tested against real Go, not proved from fmt's source: count such statements apart). THE CARD IS WHAT COUNTS. Prove the row's statement (the work); the ties are given (YtnpnclhjfemldaaGreatDoorTie.lean); close each card by the builder's one call (the guide's Derived/Test/ToyasCard.lean, 'card_holds'). Laid BY PROGRAM, IN A SANDBOX (cutbox-door.mjs). By AI agents, Wed Nov 11 2026. No macro, syntax, notation, axiom, sorry.
-/
import Derived.Test.YtnpnclhjfemldaaGreatDoorRows
import GoSem.ClaimSeven
namespace Go.Proofs.YtnpnclhjfemldaaGreatDoor
namespace Rows

/-- THE TIED CARD OF 'laws.FnSwitch'. -/
def fnSwitchCard : Claim7 := { stood := { row := fnSwitchRow, standIns := [], harness := (true, "d678287ce7f018d71effb9aad948ac321b33054560c1691ff9cc680216e52d90"), looks := true }, kinds := [], alts := [], laidByText := true, laidKinds := [.data, .data, .data, .data, .pinned, .pinned], laidTests := true, laidLooks := .later }
def FnSwitchCardSaid : Prop := Claim7.holds Tryz.pinned (.plain (OpenSpec.ofChange fnSwitchSpec)) fnSwitchCard

/-- THE SECOND FORM's CARD OF 'laws.FnSwitch'. -/
def fnSwitchUptoCard : Claim7 := { stood := { row := fnSwitchUptoRow, standIns := [], harness := (true, "d678287ce7f018d71effb9aad948ac321b33054560c1691ff9cc680216e52d90"), looks := true }, kinds := [], alts := [], laidByText := true, laidKinds := [.data, .data, .data, .data, .pinned, .pinned], laidTests := true, laidLooks := .later }
def FnSwitchUptoCardSaid : Prop := Claim7.holds Tryz.pinned (.plain (OpenSpec.upto fnSwitchSpec)) fnSwitchUptoCard
end Rows
end Go.Proofs.YtnpnclhjfemldaaGreatDoor
