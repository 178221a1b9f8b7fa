/- The facts of the program's own reckoning that the card of FnVaFieldFixed asks. -/
import Derived.Test.YthocmhkafgpgbaaGreatDoorCards
import Derived.Test.YthocmhkafgpgbaaGreatDoorTie
import Derived.WalkKit
import Derived.ProofKit
import Derived.OpenShut
import Derived.Deep.DeepHandedRow
import Derived.WalkSmall
set_option linter.unusedVariables false
set_option linter.unusedSimpArgs false
namespace Go.Proofs.YthocmhkafgpgbaaGreatDoor.fnVaFieldFixed
open Go.ChangeShapes Go.WideShapes Go.ChangeAt Go.RowKit
theorem factIn : (Rows.fnVaFieldFixedRow.inPlace == Tryz.prog.inPlace 3) = true := by kernel_rfl
theorem factUn : (Rows.fnVaFieldFixedRow.unfollowed == Tryz.prog.unfollowed 3) = true := by kernel_rfl
theorem factRec : (Rows.fnVaFieldFixedRow.recurses == Tryz.prog.recurses 3) = true := by kernel_rfl
theorem factNamed : (Rows.fnVaFieldFixedRow.named == Tryz.prog.varsNamed 3) = true := by kernel_rfl
end Go.Proofs.YthocmhkafgpgbaaGreatDoor.fnVaFieldFixed
