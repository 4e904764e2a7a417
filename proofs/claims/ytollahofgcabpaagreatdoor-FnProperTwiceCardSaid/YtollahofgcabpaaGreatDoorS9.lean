import Derived.Test.YtollahofgcabpaaGreatDoorS8
set_option linter.unusedSimpArgs false
set_option linter.unusedVariables false
namespace Go.Proofs.YtollahofgcabpaaGreatDoor
open Go.RowKit

end Go.Proofs.YtollahofgcabpaaGreatDoor
