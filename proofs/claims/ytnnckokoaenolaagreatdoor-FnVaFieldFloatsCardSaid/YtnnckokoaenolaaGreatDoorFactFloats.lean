/- The facts of the program's own reckoning that the card of FnVaFieldFloats asks. -/
import Derived.Test.YtnnckokoaenolaaGreatDoorCards
import Derived.Test.YtnnckokoaenolaaGreatDoorTie
import Derived.WalkKit
import Derived.ProofKit
import Derived.OpenShut
import Derived.Deep.DeepHandedRow
import Derived.WalkSmall
set_option linter.unusedVariables false
set_option linter.unusedSimpArgs false
namespace Go.Proofs.YtnnckokoaenolaaGreatDoor.fnVaFieldFloats
open Go.ChangeShapes Go.WideShapes Go.ChangeAt Go.RowKit

theorem factIn : (Rows.fnVaFieldFloatsRow.inPlace == Tryz.prog.inPlace 6) = true := by kernel_rfl
theorem factUn : (Rows.fnVaFieldFloatsRow.unfollowed == Tryz.prog.unfollowed 6) = true := by kernel_rfl
theorem factRec : (Rows.fnVaFieldFloatsRow.recurses == Tryz.prog.recurses 6) = true := by kernel_rfl
theorem factNamed : (Rows.fnVaFieldFloatsRow.named == Tryz.prog.varsNamed 6) = true := by kernel_rfl
end Go.Proofs.YtnnckokoaenolaaGreatDoor.fnVaFieldFloats
