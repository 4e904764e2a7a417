import Derived.Test.YtollahofgcabpaaGreatDoorS23
set_option linter.unusedSimpArgs false
set_option linter.unusedVariables false
namespace Go.Proofs.YtollahofgcabpaaGreatDoor
open Go.RowKit
open Fl
open Ieee (double)

end Go.Proofs.YtollahofgcabpaaGreatDoor
