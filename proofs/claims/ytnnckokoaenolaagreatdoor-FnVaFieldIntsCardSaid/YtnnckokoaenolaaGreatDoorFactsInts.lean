/- Closed facts that the card of FnVaFieldInts asks. -/
import Derived.Test.YtnnckokoaenolaaGreatDoorFactInts
set_option linter.unusedVariables false
set_option linter.unusedSimpArgs false
namespace Go.Proofs.YtnnckokoaenolaaGreatDoor.fnVaFieldInts
open Go.ChangeShapes Go.WideShapes Go.ChangeAt Go.RowKit

theorem progEq : Tryz.pinned.checked.prog = Tryz.prog := rfl
theorem closedP : joinedFacts Tryz.pinned.checked.prog 5 Tryz.f5 (OpenSpec.ofChange Rows.fnVaFieldIntsSpec).bare Rows.fnVaFieldIntsRow = true := by
  rw [progEq]
  unfold joinedFacts
  rw [factIn, factUn, factRec, factNamed]
  kernel_rfl
theorem named : Tryz.pinned.checked.prog.funcNamed "given.example/pub-anacrusis/laws.FnVaFieldInts" = some 5 := by kernel_rfl
theorem instanced : Tryz.f5.isInstance Tryz.pinned.checked.prog Rows.fnVaFieldIntsRow.origin Rows.fnVaFieldIntsRow.targs := of_decide_eq_true (by kernel_rfl)
theorem wrapped : Tryz.f5.isWrapper Tryz.pinned.checked.prog Rows.fnVaFieldIntsRow.wrapper Rows.fnVaFieldIntsRow.mainSum := by
  unfold Func.isWrapper; first | (rw [if_pos (by decide +kernel)]; kernel_rfl) | (rw [if_neg (by decide +kernel)]; exact ⟨rfl, rfl⟩)

end Go.Proofs.YtnnckokoaenolaaGreatDoor.fnVaFieldInts
