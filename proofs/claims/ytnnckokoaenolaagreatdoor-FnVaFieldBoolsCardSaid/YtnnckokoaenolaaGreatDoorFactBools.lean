/- The facts of the program's own reckoning that the card of FnVaFieldBools asks. -/
import Derived.Test.YtnnckokoaenolaaGreatDoorCards
import Derived.Test.YtnnckokoaenolaaGreatDoorTie
import Derived.WalkKit
import Derived.ProofKit
import Derived.OpenShut
import Derived.Deep.DeepHandedRow
import Derived.WalkSmall
set_option linter.unusedVariables false
set_option linter.unusedSimpArgs false
namespace Go.Proofs.YtnnckokoaenolaaGreatDoor.fnVaFieldBools
open Go.ChangeShapes Go.WideShapes Go.ChangeAt Go.RowKit

theorem factIn : (Rows.fnVaFieldBoolsRow.inPlace == Tryz.prog.inPlace 3) = true := by kernel_rfl
theorem factUn : (Rows.fnVaFieldBoolsRow.unfollowed == Tryz.prog.unfollowed 3) = true := by kernel_rfl
theorem factRec : (Rows.fnVaFieldBoolsRow.recurses == Tryz.prog.recurses 3) = true := by kernel_rfl
theorem factNamed : (Rows.fnVaFieldBoolsRow.named == Tryz.prog.varsNamed 3) = true := by kernel_rfl
end Go.Proofs.YtnnckokoaenolaaGreatDoor.fnVaFieldBools
