/-
  THE SAME OCTETS, as the reference compares them.
-/
import Derived.Test.YtiifcfngbbhgoaaGreatDoorQRdStr
set_option linter.constructorNameAsVariable false
set_option linter.unusedVariables false
set_option linter.unusedSimpArgs false
namespace Go.Proofs.YtiifcfngbbhgoaaGreatDoor.Rd
open Go Go.Proofs.YtiifcfngbbhgoaaGreatDoor.Ax Go.Proofs.YtiifcfngbbhgoaaGreatDoor.Wire
set_option maxRecDepth 100000
set_option maxHeartbeats 1000000
def loopOf : List Code → Code
  | .block _ (.loop b) :: _ => b
  | _ :: r => loopOf r
  | [] => .skip
end Go.Proofs.YtiifcfngbbhgoaaGreatDoor.Rd

