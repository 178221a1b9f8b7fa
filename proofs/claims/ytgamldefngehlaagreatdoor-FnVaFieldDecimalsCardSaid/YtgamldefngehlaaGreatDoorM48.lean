/- The facts of the program's own reckoning that the card of FnVaFieldDecimals asks. -/
import Derived.Test.YtgamldefngehlaaGreatDoorCards
import Derived.Test.YtgamldefngehlaaGreatDoorTie
import Derived.WalkKit
import Derived.ProofKit
import Derived.OpenShut
import Derived.Deep.DeepHandedRow
import Derived.WalkSmall
set_option linter.unusedVariables false
set_option linter.unusedSimpArgs false
namespace Go.Proofs.YtgamldefngehlaaGreatDoor.fnVaFieldDecimals
open Go.ChangeShapes Go.WideShapes Go.ChangeAt Go.RowKit
theorem factIn : (Rows.fnVaFieldDecimalsRow.inPlace == Tryz.prog.inPlace 3) = true := by kernel_rfl
theorem factUn : (Rows.fnVaFieldDecimalsRow.unfollowed == Tryz.prog.unfollowed 3) = true := by kernel_rfl
theorem factRec : (Rows.fnVaFieldDecimalsRow.recurses == Tryz.prog.recurses 3) = true := by kernel_rfl
theorem factNamed : (Rows.fnVaFieldDecimalsRow.named == Tryz.prog.varsNamed 3) = true := by kernel_rfl
end Go.Proofs.YtgamldefngehlaaGreatDoor.fnVaFieldDecimals
