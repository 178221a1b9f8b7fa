/- Small functions: near, ZzField, anyOf, the sizes that are told. -/
import Derived.Test.YtipoenpakjpokaaGreatDoorBase
set_option linter.unusedVariables false
set_option linter.unusedSimpArgs false
namespace Go.Proofs.YtipoenpakjpokaaGreatDoor
open Go.RowKit

/-- The cells of an impl.Val of kinds 0 to 5 and 7. -/
abbrev valCells (k : Int) (b : Bool) (i : Int) (f : Nat) (bs : Value) (s : ByteArray) (rn : Bool) (ra rd : Value) : Array Value :=
  #[.int .i64 k, .bool b, .int .i64 i, .float .f64 f, bs, .string s, .int .i64 0, .int .i64 0, .int .i64 0, .int .i64 0, .int .i64 0, .int .i64 0, .int .i64 0, .bool rn, ra, rd,
    .int .i64 0, .int .i64 0, .int .i64 0, .int .i64 0, .int .u64 0, .slice none 0 0]

theorem near_any (n : Int) (w : World) (h0 : -10 ≤ n) (h1 : n ≤ 1000) : Calls Tryz.prog 13 #[.int .i64 n] w fun e w' => e = .returned (.bool true) ∧ w = w' := by
  go_enter Tryz.func13, Tryz.ntmps13
  go_wp2
  go_ret
  exact ⟨by simp, rfl⟩

/-- The cells of a ParameterField. -/
abbrev fieldCells (names : Nat) (tc prec scale : Int) : Array Value := #[.pointer (some ⟨names, 0, none⟩), .int .i64 0, .int .i64 prec, .int .i64 scale, .int .i8 0, .int .u8 tc, .int .i8 1]

set_option maxRecDepth 100000 in
theorem field_any (tc prec scale : Int) (w : World) : Calls Tryz.prog 14 #[.int .u8 tc, .int .i64 prec, .int .i64 scale, .int .i64 1] w fun e w' =>
      e = .returned (.pointer (some ⟨w.heap.size + 1, 0, none⟩)) ∧ (w.alloc (.cells #[.slice none 0 0] 83)).alloc (.cells (fieldCells w.heap.size tc prec scale) 89) = w' := by
  go_enter Tryz.func14, Tryz.ntmps14
  go_wp2
  go_ret
  exact ⟨rfl, rfl⟩

set_option maxRecDepth 100000 in
theorem anyOf0 (w : World) (b : Bool) (i : Int) (f : Nat) (bs : Value) (s : ByteArray) (rn : Bool) (ra rd : Value) :
    Calls Tryz.prog 12 #[.agg (valCells 0 b i f bs s rn ra rd)] w fun e w' => e = .returned (.tuple #[.nilIface, .bool true]) ∧ w.alloc (.cells (valCells 0 b i f bs s rn ra rd) 36) = w' := by
  go_enter Tryz.func12, Tryz.ntmps12
  go_wp2
  go_ret2
  exact ⟨rfl, rfl⟩
set_option maxRecDepth 100000 in
theorem anyOf1 (w : World) (b : Bool) (i : Int) (f : Nat) (bs : Value) (s : ByteArray) (rn : Bool) (ra rd : Value) :
    Calls Tryz.prog 12 #[.agg (valCells 1 b i f bs s rn ra rd)] w fun e w' => e = .returned (.tuple #[.iface 4 (.bool b), .bool true]) ∧ w.alloc (.cells (valCells 1 b i f bs s rn ra rd) 36) = w' := by
  go_enter Tryz.func12, Tryz.ntmps12
  go_wp2
  go_ret2
  exact ⟨rfl, rfl⟩
set_option maxRecDepth 100000 in
theorem anyOf2 (w : World) (b : Bool) (i : Int) (f : Nat) (bs : Value) (s : ByteArray) (rn : Bool) (ra rd : Value) :
    Calls Tryz.prog 12 #[.agg (valCells 2 b i f bs s rn ra rd)] w fun e w' => e = .returned (.tuple #[.iface 2 (.int .i64 i), .bool true]) ∧ w.alloc (.cells (valCells 2 b i f bs s rn ra rd) 36) = w' := by
  go_enter Tryz.func12, Tryz.ntmps12
  go_wp2
  go_ret2
  exact ⟨rfl, rfl⟩
set_option maxRecDepth 100000 in
theorem anyOf3 (w : World) (b : Bool) (i : Int) (f : Nat) (bs : Value) (s : ByteArray) (rn : Bool) (ra rd : Value) :
    Calls Tryz.prog 12 #[.agg (valCells 3 b i f bs s rn ra rd)] w fun e w' => e = .returned (.tuple #[.iface 25 (.float .f64 f), .bool true]) ∧ w.alloc (.cells (valCells 3 b i f bs s rn ra rd) 36) = w' := by
  go_enter Tryz.func12, Tryz.ntmps12
  go_wp2
  go_ret2
  exact ⟨rfl, rfl⟩

set_option maxRecDepth 100000 in
/-- The size that is told of a value that is not null, of a type code of fixed width. -/
theorem size28 (w : World) (F : Nat) (t : TypeId) (x : Value) (hF : w.cell? ⟨F, 5, none⟩ = some (.int .u8 28)) :
    Calls Tryz.prog 15 #[.pointer (some ⟨F, 0, none⟩), .iface t x] w fun e w' => e = .returned (.int .i64 1) ∧ w = w' := by
  go_enter Tryz.func15, Tryz.ntmps15
  go_wp2
  go_ret
  exact ⟨by simp, rfl⟩
end Go.Proofs.YtipoenpakjpokaaGreatDoor
