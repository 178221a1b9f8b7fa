/- math's functions between floats and their bits. -/
import Derived.Test.YtnnckokoaenolaaGreatDoorBase
import Derived.Laws.Externs
set_option linter.unusedVariables false
set_option linter.unusedSimpArgs false
namespace Go.Proofs.YtnnckokoaenolaaGreatDoor
open Go.RowKit

@[go_sem] theorem call_f64bits (b : Nat) (w : World) : (callFunc 16 #[.float .f64 b]).run Tryz.prog w = .ok (.value (.int .u64 b)) w :=
  (run_callFunc_extern Tryz.func16 (by kernel_rfl) (by kernel_rfl) (by kernel_rfl) (e := Extern.MathFloatBits.float64bits) (by kernel_rfl) _ w).trans rfl
@[go_sem] theorem call_f32bits (b : Nat) (w : World) : (callFunc 17 #[.float .f32 b]).run Tryz.prog w = .ok (.value (.int .u32 b)) w :=
  (run_callFunc_extern Tryz.func17 (by kernel_rfl) (by kernel_rfl) (by kernel_rfl) (e := Extern.MathFloatBits.float32bits) (by kernel_rfl) _ w).trans rfl
@[go_sem] theorem call_f64from (b : Nat) (w : World) : (callFunc 183 #[.int .u64 b]).run Tryz.prog w = .ok (.value (.float .f64 b)) w :=
  (run_callFunc_extern Tryz.func183 (by kernel_rfl) (by kernel_rfl) (by kernel_rfl) (e := Extern.MathFloatBits.float64frombits) (by kernel_rfl) _ w).trans rfl
@[go_sem] theorem call_f32from (b : Nat) (w : World) : (callFunc 181 #[.int .u32 b]).run Tryz.prog w = .ok (.value (.float .f32 b)) w :=
  (run_callFunc_extern Tryz.func181 (by kernel_rfl) (by kernel_rfl) (by kernel_rfl) (e := Extern.MathFloatBits.float32frombits) (by kernel_rfl) _ w).trans rfl
end Go.Proofs.YtnnckokoaenolaaGreatDoor
