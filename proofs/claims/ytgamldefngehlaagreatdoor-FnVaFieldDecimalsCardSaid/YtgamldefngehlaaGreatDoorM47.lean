/- No function of the program starts a goroutine: so no law does. -/
import Derived.Test.YtgamldefngehlaaGreatDoorCards
import Derived.KernelRfl
namespace Go.Proofs.YtgamldefngehlaaGreatDoor
open Go
theorem noGo : Tryz.prog.funcs.any Func.goes = false := by kernel_rfl
theorem goesB (c : OpenClaim) (h : c.start = .entering) : false = c.goesBy Tryz.prog := by
 symm
 unfold OpenClaim.goesBy Program.goesAt
 rw [h]
 have hg : ∀ f, Tryz.prog.goes f = false := by
  intro f
  have hf : ∀ g : Nat, (Tryz.prog.funcs[g]?).any Func.goes = false := by
   intro g
   cases hh : Tryz.prog.funcs[g]? with
   | none => rfl
   | some fn =>
    have := Array.any_eq_false.1 noGo g (by exact (Array.getElem?_eq_some_iff.1 hh).1)
    simp only [Option.any_some]
    rw [← (Array.getElem?_eq_some_iff.1 hh).2]
    simpa using this
  unfold Program.goes
  rw [noGo]
  simp only [hf, List.any_eq_false, Bool.and_false, Bool.or_false]
  simp
 unfold Program.goesFrom
 cases Tryz.prog.funcNamed c.func with
 | none => rfl
 | some f => simp [hg]
end Go.Proofs.YtgamldefngehlaaGreatDoor
