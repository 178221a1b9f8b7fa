/- The facts of the program's own reckoning that the card of FnVaFieldTexts asks. -/
import Derived.Test.YtipoenpakjpokaaGreatDoorCards
import Derived.Test.YtipoenpakjpokaaGreatDoorTie
import Derived.WalkKit
import Derived.ProofKit
import Derived.OpenShut
import Derived.Deep.DeepHandedRow
import Derived.WalkSmall
set_option linter.unusedVariables false
set_option linter.unusedSimpArgs false
namespace Go.Proofs.YtipoenpakjpokaaGreatDoor.fnVaFieldTexts
open Go.ChangeShapes Go.WideShapes Go.ChangeAt Go.RowKit

theorem factIn : (Rows.fnVaFieldTextsRow.inPlace == Tryz.prog.inPlace 3) = true := by kernel_rfl
theorem factUn : (Rows.fnVaFieldTextsRow.unfollowed == Tryz.prog.unfollowed 3) = true := by kernel_rfl
theorem factRec : (Rows.fnVaFieldTextsRow.recurses == Tryz.prog.recurses 3) = true := by kernel_rfl
theorem factNamed : (Rows.fnVaFieldTextsRow.named == Tryz.prog.varsNamed 3) = true := by kernel_rfl
end Go.Proofs.YtipoenpakjpokaaGreatDoor.fnVaFieldTexts
