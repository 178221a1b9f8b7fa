/- The facts of the program's own reckoning that the card of FnVaFieldInts asks. -/
import Derived.Test.YtnnckokoaenolaaGreatDoorCards
import Derived.Test.YtnnckokoaenolaaGreatDoorTie
import Derived.WalkKit
import Derived.ProofKit
import Derived.OpenShut
import Derived.Deep.DeepHandedRow
import Derived.WalkSmall
set_option linter.unusedVariables false
set_option linter.unusedSimpArgs false
namespace Go.Proofs.YtnnckokoaenolaaGreatDoor.fnVaFieldInts
open Go.ChangeShapes Go.WideShapes Go.ChangeAt Go.RowKit

theorem factIn : (Rows.fnVaFieldIntsRow.inPlace == Tryz.prog.inPlace 5) = true := by kernel_rfl
theorem factUn : (Rows.fnVaFieldIntsRow.unfollowed == Tryz.prog.unfollowed 5) = true := by kernel_rfl
theorem factRec : (Rows.fnVaFieldIntsRow.recurses == Tryz.prog.recurses 5) = true := by kernel_rfl
theorem factNamed : (Rows.fnVaFieldIntsRow.named == Tryz.prog.varsNamed 5) = true := by kernel_rfl
end Go.Proofs.YtnnckokoaenolaaGreatDoor.fnVaFieldInts
