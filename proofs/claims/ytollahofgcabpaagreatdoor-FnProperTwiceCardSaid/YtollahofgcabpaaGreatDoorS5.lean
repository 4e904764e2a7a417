import Derived.Test.YtollahofgcabpaaGreatDoorS2
set_option linter.unusedSimpArgs false
set_option linter.unusedVariables false
namespace Go.Proofs.YtollahofgcabpaaGreatDoor
open Go.RowKit

end Go.Proofs.YtollahofgcabpaaGreatDoor
