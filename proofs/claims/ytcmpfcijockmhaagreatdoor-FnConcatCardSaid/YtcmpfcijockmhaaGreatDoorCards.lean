/-
  DERIVED. GIVEN WITH THE SEED: THE CARDS: each row of YtcmpfcijockmhaaGreatDoorRows.lean that lists a variable, with what it lists TIED to the program's text (the seventh form; the later family's looks); each row that meets fmt, with fmt's text TOLD by the authors' own Lean function (tested against real Go, not proved from fmt's source: count such statements apart). THE CARD IS WHAT COUNTS. Prove the row's statement (the work); the ties are given (YtcmpfcijockmhaaGreatDoorTie.lean); close each card by the builder's one call (the guide's Derived/Test/ToyasCard.lean, 'card_holds'). Laid BY PROGRAM, IN A SANDBOX (cutbox-door.mjs). By AI agents, Wed Nov 11 2026. No macro, syntax, notation, axiom, sorry.
-/
import Derived.Test.YtcmpfcijockmhaaGreatDoorRows
import GoSem.ClaimSeven
namespace Go.Proofs.YtcmpfcijockmhaaGreatDoor
namespace Rows

/-- THE TIED CARD OF 'laws.FnUnicode'. -/
def fnUnicodeCard : Claim7 := { stood := { row := fnUnicodeRow, standIns := [], harness := (true, "8d59826dad85d952b1d69ddb2a7d42be2a59620f2abb883efbdf67828f44d42a"), looks := true }, kinds := [], alts := [], laidByText := true, laidKinds := [.data, .data, .data, .data, .pinned, .pinned], laidTests := true, laidLooks := .later }
def FnUnicodeCardSaid : Prop := Claim7.holds Tryz.pinned (.plain (OpenSpec.ofChange fnUnicodeSpec)) fnUnicodeCard

/-- THE TIED CARD OF 'laws.FnLen'. -/
def fnLenCard : Claim7 := { stood := { row := fnLenRow, standIns := [], harness := (true, "8d59826dad85d952b1d69ddb2a7d42be2a59620f2abb883efbdf67828f44d42a"), looks := true }, kinds := [], alts := [], laidByText := true, laidKinds := [.data, .data, .data, .data, .pinned, .pinned], laidTests := true, laidLooks := .later }
def FnLenCardSaid : Prop := Claim7.holds Tryz.pinned (.plain (OpenSpec.ofChange fnLenSpec)) fnLenCard

/-- THE TIED CARD OF 'laws.FnSwitch'. -/
def fnSwitchCard : Claim7 := { stood := { row := fnSwitchRow, standIns := [], harness := (true, "8d59826dad85d952b1d69ddb2a7d42be2a59620f2abb883efbdf67828f44d42a"), looks := true }, kinds := [], alts := [], laidByText := true, laidKinds := [.data, .data, .data, .data, .pinned, .pinned], laidTests := true, laidLooks := .later }
def FnSwitchCardSaid : Prop := Claim7.holds Tryz.pinned (.plain (OpenSpec.ofChange fnSwitchSpec)) fnSwitchCard

/-- THE TIED CARD OF 'laws.FnConcat'. -/
def fnConcatCard : Claim7 := { stood := { row := fnConcatRow, standIns := [], harness := (true, "8d59826dad85d952b1d69ddb2a7d42be2a59620f2abb883efbdf67828f44d42a"), looks := true }, kinds := [], alts := [], laidByText := true, laidKinds := [.data, .data, .data, .data, .sentinel, .pinned, .pinned], laidTests := true, laidLooks := .later }
def FnConcatCardSaid : Prop := Claim7.holds Tryz.pinned (.plain (OpenSpec.ofChange fnConcatSpec)) fnConcatCard

/-- THE SECOND FORM's CARD OF 'laws.FnUnicode'. -/
def fnUnicodeUptoCard : Claim7 := { stood := { row := fnUnicodeUptoRow, standIns := [], harness := (true, "8d59826dad85d952b1d69ddb2a7d42be2a59620f2abb883efbdf67828f44d42a"), looks := true }, kinds := [], alts := [], laidByText := true, laidKinds := [.data, .data, .data, .data, .pinned, .pinned], laidTests := true, laidLooks := .later }
def FnUnicodeUptoCardSaid : Prop := Claim7.holds Tryz.pinned (.plain (OpenSpec.upto fnUnicodeSpec)) fnUnicodeUptoCard

/-- THE SECOND FORM's CARD OF 'laws.FnLen'. -/
def fnLenUptoCard : Claim7 := { stood := { row := fnLenUptoRow, standIns := [], harness := (true, "8d59826dad85d952b1d69ddb2a7d42be2a59620f2abb883efbdf67828f44d42a"), looks := true }, kinds := [], alts := [], laidByText := true, laidKinds := [.data, .data, .data, .data, .pinned, .pinned], laidTests := true, laidLooks := .later }
def FnLenUptoCardSaid : Prop := Claim7.holds Tryz.pinned (.plain (OpenSpec.upto fnLenSpec)) fnLenUptoCard

/-- THE SECOND FORM's CARD OF 'laws.FnSwitch'. -/
def fnSwitchUptoCard : Claim7 := { stood := { row := fnSwitchUptoRow, standIns := [], harness := (true, "8d59826dad85d952b1d69ddb2a7d42be2a59620f2abb883efbdf67828f44d42a"), looks := true }, kinds := [], alts := [], laidByText := true, laidKinds := [.data, .data, .data, .data, .pinned, .pinned], laidTests := true, laidLooks := .later }
def FnSwitchUptoCardSaid : Prop := Claim7.holds Tryz.pinned (.plain (OpenSpec.upto fnSwitchSpec)) fnSwitchUptoCard

/-- THE SECOND FORM's CARD OF 'laws.FnConcat'. -/
def fnConcatUptoCard : Claim7 := { stood := { row := fnConcatUptoRow, standIns := [], harness := (true, "8d59826dad85d952b1d69ddb2a7d42be2a59620f2abb883efbdf67828f44d42a"), looks := true }, kinds := [], alts := [], laidByText := true, laidKinds := [.data, .data, .data, .data, .sentinel, .pinned, .pinned], laidTests := true, laidLooks := .later }
def FnConcatUptoCardSaid : Prop := Claim7.holds Tryz.pinned (.plain (OpenSpec.upto fnConcatSpec)) fnConcatUptoCard
end Rows
end Go.Proofs.YtcmpfcijockmhaaGreatDoor
