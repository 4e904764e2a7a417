import Derived.Test.YtollahofgcabpaaGreatDoorS9
set_option linter.unusedSimpArgs false
set_option linter.unusedVariables false
namespace Go.Proofs.YtollahofgcabpaaGreatDoor
open Go.RowKit
/-- A text as a value. -/
def tx (s : ByteArray) : SVal := ⟨2, 0, 0, s⟩
end Go.Proofs.YtollahofgcabpaaGreatDoor
