/- Texts: anyOf at bytes and at texts. -/
import Derived.Test.YtipoenpakjpokaaGreatDoorTxtA
set_option linter.unusedVariables false
set_option linter.unusedSimpArgs false
namespace Go.Proofs.YtipoenpakjpokaaGreatDoor
open Go.RowKit

set_option maxRecDepth 100000 in
theorem anyOf5 (w : World) (b : Bool) (i : Int) (f : Nat) (bs : Value) (s : ByteArray) (rn : Bool) (ra rd : Value) (hs : s.size ≤ 3000) :
    Calls Tryz.prog 12 #[.agg (valCells 5 b i f bs s rn ra rd)] w fun e w' => e = .returned (.tuple #[.iface 9 (.string s), .bool true]) ∧ Below w.heap.size w w' := by
  have hs' : (s.size : Int) ≤ 131072 := by omega
  go_enter Tryz.func12, Tryz.ntmps12
  go_wp2
  go_region
  all_goals go_wp2
  all_goals go_ret2
  all_goals exact ⟨rfl, ((Below.refl _ w).alloc (Nat.le_refl _) _).drew⟩

end Go.Proofs.YtipoenpakjpokaaGreatDoor
