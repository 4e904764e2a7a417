/-
  DERIVED. GIVEN WITH THE SEED: THE CARDS: each row of YtollahofgcabpaaGreatDoorRows.lean that lists a variable, with what it lists TIED to the program's text (the seventh form; the later family's looks); each row that meets fmt, with fmt's text TOLD by the authors' own Lean function (tested against real Go, not proved from fmt's source: count such statements apart). THE CARD IS WHAT COUNTS. Prove the row's statement (the work); the ties are given (YtollahofgcabpaaGreatDoorTie.lean); close each card by the builder's one call (the guide's Derived/Test/ToyasCard.lean, 'card_holds'). Laid BY PROGRAM, IN A SANDBOX (cutbox-door.mjs). By AI agents, Wed Nov 11 2026. No macro, syntax, notation, axiom, sorry.
-/
import Derived.Test.YtollahofgcabpaaGreatDoorRows
import GoSem.ClaimSeven
namespace Go.Proofs.YtollahofgcabpaaGreatDoor
namespace Rows

/-- THE TIED CARD OF 'laws.FnProperTwice'. -/
def fnProperTwiceCard : Claim7 := { stood := { row := fnProperTwiceRow, standIns := [], harness := (true, "3d53437c6e92d7384cfa3640c66e669ea3359ce06323391632aab84f28733355"), looks := true }, kinds := [], alts := [], laidByText := true, laidKinds := [.data, .data, .data, .data, .data, .sentinel, .pinned, .pinned, .pinned, .pinned], laidTests := true, laidLooks := .later }
def FnProperTwiceCardSaid : Prop := Claim7.holds Tryz.pinned (.plain (OpenSpec.ofChange fnProperTwiceSpec)) fnProperTwiceCard

/-- THE SECOND FORM's CARD OF 'laws.FnProperTwice'. -/
def fnProperTwiceUptoCard : Claim7 := { stood := { row := fnProperTwiceUptoRow, standIns := [], harness := (true, "3d53437c6e92d7384cfa3640c66e669ea3359ce06323391632aab84f28733355"), looks := true }, kinds := [], alts := [], laidByText := true, laidKinds := [.data, .data, .data, .data, .data, .sentinel, .pinned, .pinned, .pinned, .pinned], laidTests := true, laidLooks := .later }
def FnProperTwiceUptoCardSaid : Prop := Claim7.holds Tryz.pinned (.plain (OpenSpec.upto fnProperTwiceSpec)) fnProperTwiceUptoCard
end Rows
end Go.Proofs.YtollahofgcabpaaGreatDoor
