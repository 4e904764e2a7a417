import Derived.Test.YtollahofgcabpaaGreatDoorT2
import Derived.Lib.ConvBytes
import Derived.Laws.BytesArg
set_option linter.unusedSimpArgs false
set_option linter.unusedVariables false
namespace Go.Proofs.YtollahofgcabpaaGreatDoor
open Go.RowKit

end Go.Proofs.YtollahofgcabpaaGreatDoor
