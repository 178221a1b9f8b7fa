/- Closed facts that the card of FnVaFieldDecimals asks. -/
import Derived.Test.YtgamldefngehlaaGreatDoorM48
set_option linter.unusedVariables false
set_option linter.unusedSimpArgs false
namespace Go.Proofs.YtgamldefngehlaaGreatDoor.fnVaFieldDecimals
open Go.ChangeShapes Go.WideShapes Go.ChangeAt Go.RowKit
theorem progEq : Tryz.pinned.checked.prog = Tryz.prog := rfl
theorem closedP : joinedFacts Tryz.pinned.checked.prog 3 Tryz.f3 (OpenSpec.ofChange Rows.fnVaFieldDecimalsSpec).bare Rows.fnVaFieldDecimalsRow = true := by
 rw [progEq]
 unfold joinedFacts
 rw [factIn, factUn, factRec, factNamed]
 kernel_rfl
theorem named : Tryz.pinned.checked.prog.funcNamed "given.example/pub-anacrusis/laws.FnVaFieldDecimals" = some 3 := by kernel_rfl
theorem instanced : Tryz.f3.isInstance Tryz.pinned.checked.prog Rows.fnVaFieldDecimalsRow.origin Rows.fnVaFieldDecimalsRow.targs := of_decide_eq_true (by kernel_rfl)
theorem wrapped : Tryz.f3.isWrapper Tryz.pinned.checked.prog Rows.fnVaFieldDecimalsRow.wrapper Rows.fnVaFieldDecimalsRow.mainSum := by
 unfold Func.isWrapper; first | (rw [if_pos (by decide +kernel)]; kernel_rfl) | (rw [if_neg (by decide +kernel)]; exact ⟨rfl, rfl⟩)
end Go.Proofs.YtgamldefngehlaaGreatDoor.fnVaFieldDecimals
