/- impl.ResultOf, out of the contracts of what it calls. -/
import Derived.Test.YtipoenpakjpokaaGreatDoorFoCore
set_option linter.unusedVariables false
set_option linter.unusedSimpArgs false
namespace Go.Proofs.YtipoenpakjpokaaGreatDoor
open Go.RowKit

end Go.Proofs.YtipoenpakjpokaaGreatDoor
