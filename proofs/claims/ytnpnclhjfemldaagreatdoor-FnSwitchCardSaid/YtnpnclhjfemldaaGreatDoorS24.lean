import Derived.Test.YtnpnclhjfemldaaGreatDoorS23
set_option linter.unusedSimpArgs false
set_option linter.unusedVariables false
namespace Go.Proofs.YtnpnclhjfemldaaGreatDoor
open Go.RowKit
open Fl
open Ieee (double)

end Go.Proofs.YtnpnclhjfemldaaGreatDoor
