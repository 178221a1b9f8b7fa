/- The facts of the program's own reckoning that the card of FnVaFieldNulls asks. -/
import Derived.Test.YtnnckokoaenolaaGreatDoorCards
import Derived.Test.YtnnckokoaenolaaGreatDoorTie
import Derived.WalkKit
import Derived.ProofKit
import Derived.OpenShut
import Derived.Deep.DeepHandedRow
import Derived.WalkSmall
set_option linter.unusedVariables false
set_option linter.unusedSimpArgs false
namespace Go.Proofs.YtnnckokoaenolaaGreatDoor.fnVaFieldNulls
open Go.ChangeShapes Go.WideShapes Go.ChangeAt Go.RowKit

theorem factIn : (Rows.fnVaFieldNullsRow.inPlace == Tryz.prog.inPlace 4) = true := by kernel_rfl
theorem factUn : (Rows.fnVaFieldNullsRow.unfollowed == Tryz.prog.unfollowed 4) = true := by kernel_rfl
theorem factRec : (Rows.fnVaFieldNullsRow.recurses == Tryz.prog.recurses 4) = true := by kernel_rfl
theorem factNamed : (Rows.fnVaFieldNullsRow.named == Tryz.prog.varsNamed 4) = true := by kernel_rfl
end Go.Proofs.YtnnckokoaenolaaGreatDoor.fnVaFieldNulls
