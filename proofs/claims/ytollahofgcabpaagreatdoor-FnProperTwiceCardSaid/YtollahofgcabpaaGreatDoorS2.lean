import Derived.Test.YtollahofgcabpaaGreatDoorS1
set_option linter.unusedSimpArgs false
set_option linter.unusedVariables false
namespace Go.Proofs.YtollahofgcabpaaGreatDoor
open Go.RowKit
def words : List (List UInt8) := [[101], [110, 97, 110], [105, 110, 102], [105, 110, 102, 105, 110, 105, 116, 121], [116, 114, 117, 101], [102, 97, 108, 115, 101], [97, 109], [112, 109], [97], [112]]
end Go.Proofs.YtollahofgcabpaaGreatDoor
