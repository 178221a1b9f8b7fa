/- Closed facts that the card of FnVaFieldFloats asks. -/
import Derived.Test.YtnnckokoaenolaaGreatDoorFactFloats
set_option linter.unusedVariables false
set_option linter.unusedSimpArgs false
namespace Go.Proofs.YtnnckokoaenolaaGreatDoor.fnVaFieldFloats
open Go.ChangeShapes Go.WideShapes Go.ChangeAt Go.RowKit

theorem progEq : Tryz.pinned.checked.prog = Tryz.prog := rfl
theorem closedP : joinedFacts Tryz.pinned.checked.prog 6 Tryz.f6 (OpenSpec.ofChange Rows.fnVaFieldFloatsSpec).bare Rows.fnVaFieldFloatsRow = true := by
  rw [progEq]
  unfold joinedFacts
  rw [factIn, factUn, factRec, factNamed]
  kernel_rfl
theorem named : Tryz.pinned.checked.prog.funcNamed "given.example/pub-anacrusis/laws.FnVaFieldFloats" = some 6 := by kernel_rfl
theorem instanced : Tryz.f6.isInstance Tryz.pinned.checked.prog Rows.fnVaFieldFloatsRow.origin Rows.fnVaFieldFloatsRow.targs := of_decide_eq_true (by kernel_rfl)
theorem wrapped : Tryz.f6.isWrapper Tryz.pinned.checked.prog Rows.fnVaFieldFloatsRow.wrapper Rows.fnVaFieldFloatsRow.mainSum := by
  unfold Func.isWrapper; first | (rw [if_pos (by decide +kernel)]; kernel_rfl) | (rw [if_neg (by decide +kernel)]; exact ⟨rfl, rfl⟩)

end Go.Proofs.YtnnckokoaenolaaGreatDoor.fnVaFieldFloats
