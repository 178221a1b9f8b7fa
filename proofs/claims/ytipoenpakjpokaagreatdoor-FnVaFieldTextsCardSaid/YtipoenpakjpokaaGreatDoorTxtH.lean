/- Texts: the type codes of the law. -/
import Derived.Test.YtipoenpakjpokaaGreatDoorTxtG
set_option linter.unusedVariables false
set_option linter.unusedSimpArgs false
namespace Go.Proofs.YtipoenpakjpokaaGreatDoor
open Go.RowKit

def textCodes : Array Value := #[.int .i64 8, .int .i64 9, .int .i64 10, .int .i64 11, .int .i64 12, .int .i64 13, .int .i64 29, .int .i64 30, .int .i64 52, .int .i64 55]

set_option maxRecDepth 100000 in
theorem vaTexts_any (w : World) : Calls Tryz.prog 4 #[] w fun e w' => e = .returned (.slice (some ⟨w.heap.size, 0, none⟩) 10 10) ∧ w.alloc (.cells textCodes 3) = w' := by
  go_enter Tryz.func4, Tryz.ntmps4
  go_wp2
  go_ret
  exact ⟨rfl, rfl⟩

/-- The code at a place. -/
theorem textCode (j : Nat) (hj : j < 10) : ∃ code : Int, textCodes[j]? = some (.int .i64 code) ∧ (VarCode code ∨ CesuCode code) := by
  match j, hj with
  | 0, _ => exact ⟨8, rfl, by simp [VarCode]⟩
  | 1, _ => exact ⟨9, rfl, by simp [VarCode]⟩
  | 2, _ => exact ⟨10, rfl, by simp [CesuCode]⟩
  | 3, _ => exact ⟨11, rfl, by simp [CesuCode]⟩
  | 4, _ => exact ⟨12, rfl, by simp [VarCode]⟩
  | 5, _ => exact ⟨13, rfl, by simp [VarCode]⟩
  | 6, _ => exact ⟨29, rfl, by simp [VarCode]⟩
  | 7, _ => exact ⟨30, rfl, by simp [CesuCode]⟩
  | 8, _ => exact ⟨52, rfl, by simp [CesuCode]⟩
  | 9, _ => exact ⟨55, rfl, by simp [VarCode]⟩
end Go.Proofs.YtipoenpakjpokaaGreatDoor
