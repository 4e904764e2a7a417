import Derived.Test.YtollahofgcabpaaGreatDoorS4
import Derived.Test.YtollahofgcabpaaGreatDoorS5
set_option linter.unusedSimpArgs false
set_option linter.unusedVariables false
namespace Go.Proofs.YtollahofgcabpaaGreatDoor
open Go.RowKit

end Go.Proofs.YtollahofgcabpaaGreatDoor
