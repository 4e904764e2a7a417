import Derived.Test.YtollahofgcabpaaGreatDoorS1
import Derived.Deep.QuietTactic
import Derived.BigQuiet
set_option linter.unusedSimpArgs false
set_option linter.unusedVariables false
namespace Go.Proofs.YtollahofgcabpaaGreatDoor
open Go.RowKit

end Go.Proofs.YtollahofgcabpaaGreatDoor
