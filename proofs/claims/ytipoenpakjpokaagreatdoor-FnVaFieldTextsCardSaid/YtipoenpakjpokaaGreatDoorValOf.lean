/- impl.valOf: nil, a bool, an int64, a float64. -/
import Derived.Test.YtipoenpakjpokaaGreatDoorFoCore
set_option linter.unusedVariables false
set_option linter.unusedSimpArgs false
namespace Go.Proofs.YtipoenpakjpokaaGreatDoor
open Go.RowKit

/-- The cells of a Val that is plain. -/
def plainVal (k : Int) (b : Bool) (i : Int) (f : Nat) (bs : Value) : Array Value := valCells k b i f bs ⟨#[]⟩ false (.slice none 0 0) (.slice none 0 0)
theorem plain1 (k : Int) (b : Bool) (i : Int) (f : Nat) (A : Option Addr) (n c : Nat) : (plainVal k b i f (.slice A n c)).all (·.oneCell') = true := by
  simp [plainVal, Value.oneCell']

theorem results_val (w : World) (b : Nat) (v : Array Value) (hv : v.size = 22) (hb : w.heap[b]? = some (.cells v 36 (0, 0))) (tmps : Array Value) (h2 : tmps.getD 2 undef = .pointer (some ⟨b, 0, none⟩)) :
    (results Tryz.f21 tmps).run Tryz.prog w = .ok (.agg v) w := by
  obtain ⟨fs, hu⟩ := valStruct
  exact results_cell_row Tryz.results21 tmps w b 36 v (0, 0) _ h2 hb hu rfl (valSize hv)

@[go_sem] theorem as_b_b (v : Value) (w : World) : (Instr.typeAssert (.iface 4 v) 20 4 true).run Tryz.prog w = .ok (.tuple #[v, .bool true]) w := by kernel_rfl
@[go_sem] theorem as_i_b (v : Value) (w : World) : (Instr.typeAssert (.iface 2 v) 20 4 true).run Tryz.prog w = .ok (.tuple #[.bool false, .bool false]) w := by kernel_rfl
@[go_sem] theorem as_i_i (v : Value) (w : World) : (Instr.typeAssert (.iface 2 v) 20 2 true).run Tryz.prog w = .ok (.tuple #[v, .bool true]) w := by kernel_rfl
@[go_sem] theorem as_f_b (v : Value) (w : World) : (Instr.typeAssert (.iface 25 v) 20 4 true).run Tryz.prog w = .ok (.tuple #[.bool false, .bool false]) w := by kernel_rfl
@[go_sem] theorem as_f_i (v : Value) (w : World) : (Instr.typeAssert (.iface 25 v) 20 2 true).run Tryz.prog w = .ok (.tuple #[.int .i64 0, .bool false]) w := by kernel_rfl
@[go_sem] theorem as_f_f (v : Value) (w : World) : (Instr.typeAssert (.iface 25 v) 20 25 true).run Tryz.prog w = .ok (.tuple #[v, .bool true]) w := by kernel_rfl
@[go_sem] theorem as_s_b (v : Value) (w : World) : (Instr.typeAssert (.iface 22 v) 20 4 true).run Tryz.prog w = .ok (.tuple #[.bool false, .bool false]) w := by kernel_rfl
@[go_sem] theorem as_s_i (v : Value) (w : World) : (Instr.typeAssert (.iface 22 v) 20 2 true).run Tryz.prog w = .ok (.tuple #[.int .i64 0, .bool false]) w := by kernel_rfl
@[go_sem] theorem as_s_f (v : Value) (w : World) : (Instr.typeAssert (.iface 22 v) 20 25 true).run Tryz.prog w = .ok (.tuple #[.float .f64 0, .bool false]) w := by kernel_rfl
@[go_sem] theorem as_s_s (v : Value) (w : World) : (Instr.typeAssert (.iface 22 v) 20 22 true).run Tryz.prog w = .ok (.tuple #[v, .bool true]) w := by kernel_rfl
@[go_sem] theorem as_t_b (v : Value) (w : World) : (Instr.typeAssert (.iface 9 v) 20 4 true).run Tryz.prog w = .ok (.tuple #[.bool false, .bool false]) w := by kernel_rfl
@[go_sem] theorem as_t_i (v : Value) (w : World) : (Instr.typeAssert (.iface 9 v) 20 2 true).run Tryz.prog w = .ok (.tuple #[.int .i64 0, .bool false]) w := by kernel_rfl
@[go_sem] theorem as_t_f (v : Value) (w : World) : (Instr.typeAssert (.iface 9 v) 20 25 true).run Tryz.prog w = .ok (.tuple #[.float .f64 0, .bool false]) w := by kernel_rfl
@[go_sem] theorem as_t_s (v : Value) (w : World) : (Instr.typeAssert (.iface 9 v) 20 22 true).run Tryz.prog w = .ok (.tuple #[.slice none 0 0, .bool false]) w := by kernel_rfl
@[go_sem] theorem as_t_t (v : Value) (w : World) : (Instr.typeAssert (.iface 9 v) 20 9 true).run Tryz.prog w = .ok (.tuple #[v, .bool true]) w := by kernel_rfl
set_option maxRecDepth 100000 in
theorem valOf0 (w : World) : Calls Tryz.prog 21 #[.nilIface] w fun e w' => e = .returned (.agg noVal) ∧ Below w.heap.size w w' := by
  go_enter Tryz.func21, Tryz.ntmps21
  have q : (w.alloc (.cells noVal 36)).heap[w.heap.size]? = some (.cells noVal 36 (0, 0)) := blk_new _ _
  go_wp2_with (refine store_val rfl (.tmp 2) _ rfl _ rfl noVal rfl noVal q rfl rfl (plain1 0 false 0 0 none 0 0) ?_)
  exact ⟨rfl, _, results_val _ _ _ rfl (setRow_heap _ _ _ _ _ _ q) _ rfl, rfl, below_setRow ((Below.refl _ w).alloc (Nat.le_refl _) _) (Nat.le_refl _) _⟩
set_option maxRecDepth 100000 in
theorem valOf1 (w : World) (b : Bool) : Calls Tryz.prog 21 #[.iface 4 (.bool b)] w fun e w' => e = .returned (.agg (plainVal 1 b 0 0 (.slice none 0 0))) ∧ Below w.heap.size w w' := by
  go_enter Tryz.func21, Tryz.ntmps21
  have q : (w.alloc (.cells noVal 36)).heap[w.heap.size]? = some (.cells noVal 36 (0, 0)) := blk_new _ _
  go_wp2_with (refine store_val rfl (.tmp 2) _ rfl _ rfl (plainVal 1 b 0 0 (.slice none 0 0)) rfl noVal q rfl rfl (plain1 _ _ _ _ none 0 0) ?_)
  exact ⟨rfl, _, results_val _ _ _ rfl (setRow_heap _ _ _ _ _ _ q) _ rfl, rfl, below_setRow ((Below.refl _ w).alloc (Nat.le_refl _) _) (Nat.le_refl _) _⟩
set_option maxRecDepth 100000 in
theorem valOf2 (w : World) (i : Int) : Calls Tryz.prog 21 #[.iface 2 (.int .i64 i)] w fun e w' => e = .returned (.agg (plainVal 2 false i 0 (.slice none 0 0))) ∧ Below w.heap.size w w' := by
  go_enter Tryz.func21, Tryz.ntmps21
  have q : (w.alloc (.cells noVal 36)).heap[w.heap.size]? = some (.cells noVal 36 (0, 0)) := blk_new _ _
  go_wp2_with (refine store_val rfl (.tmp 2) _ rfl _ rfl (plainVal 2 false i 0 (.slice none 0 0)) rfl noVal q rfl rfl (plain1 _ _ _ _ none 0 0) ?_)
  exact ⟨rfl, _, results_val _ _ _ rfl (setRow_heap _ _ _ _ _ _ q) _ rfl, rfl, below_setRow ((Below.refl _ w).alloc (Nat.le_refl _) _) (Nat.le_refl _) _⟩
set_option maxRecDepth 100000 in
theorem valOf3 (w : World) (f : Nat) : Calls Tryz.prog 21 #[.iface 25 (.float .f64 f)] w fun e w' => e = .returned (.agg (plainVal 3 false 0 f (.slice none 0 0))) ∧ Below w.heap.size w w' := by
  go_enter Tryz.func21, Tryz.ntmps21
  have q : (w.alloc (.cells noVal 36)).heap[w.heap.size]? = some (.cells noVal 36 (0, 0)) := blk_new _ _
  go_wp2_with (refine store_val rfl (.tmp 2) _ rfl _ rfl (plainVal 3 false 0 f (.slice none 0 0)) rfl noVal q rfl rfl (plain1 _ _ _ _ none 0 0) ?_)
  exact ⟨rfl, _, results_val _ _ _ rfl (setRow_heap _ _ _ _ _ _ q) _ rfl, rfl, below_setRow ((Below.refl _ w).alloc (Nat.le_refl _) _) (Nat.le_refl _) _⟩
end Go.Proofs.YtipoenpakjpokaaGreatDoor
