/-
  DERIVED. GIVEN WITH THE SEED: THE CARDS: each row of YtlhonpmpchkkfaaGreatDoorRows.lean that lists a variable, with what it lists TIED to the program's text (the seventh form; the later family's looks); each row that meets fmt, with fmt's text TOLD by the authors' own Lean function (tested against real Go, not proved from fmt's source: count such statements apart). THE CARD IS WHAT COUNTS. Prove the row's statement (the work); the ties are given (YtlhonpmpchkkfaaGreatDoorTie.lean); close each card by the builder's one call (the guide's Derived/Test/ToyasCard.lean, 'card_holds'). Laid BY PROGRAM, IN A SANDBOX (cutbox-door.mjs). By AI agents, Wed Nov 11 2026. No macro, syntax, notation, axiom, sorry.
-/
import Derived.Test.YtlhonpmpchkkfaaGreatDoorRows
import GoSem.ClaimSeven
namespace Go.Proofs.YtlhonpmpchkkfaaGreatDoor
namespace Rows

/-- THE TIED CARD OF 'laws.FnDot'. -/
def fnDotCard : Claim7 := { stood := { row := fnDotRow, standIns := [], harness := (true, "bb6367139735c11de4f66f929710ebaca4e37c4756d6979077715d92d82dfc05"), looks := true }, kinds := [], alts := [], laidByText := true, laidKinds := [.data, .data, .widerDeep, .widerDeep, .data, .data, .data, .data, .data, .sentinel, .sentinel, .pinned, .pinned], laidTests := true, laidLooks := .later }
def FnDotCardSaid : Prop := Claim7.holds Tryz.pinned (.plain (OpenSpec.ofChange fnDotSpec)) fnDotCard

/-- THE SECOND FORM's CARD OF 'laws.FnDot'. -/
def fnDotUptoCard : Claim7 := { stood := { row := fnDotUptoRow, standIns := [], harness := (true, "bb6367139735c11de4f66f929710ebaca4e37c4756d6979077715d92d82dfc05"), looks := true }, kinds := [], alts := [], laidByText := true, laidKinds := [.data, .data, .widerDeep, .widerDeep, .data, .data, .data, .data, .data, .sentinel, .sentinel, .pinned, .pinned], laidTests := true, laidLooks := .later }
def FnDotUptoCardSaid : Prop := Claim7.holds Tryz.pinned (.plain (OpenSpec.upto fnDotSpec)) fnDotUptoCard
end Rows
end Go.Proofs.YtlhonpmpchkkfaaGreatDoor
