/- The rows of an impl.Val, whole; what stays; small closures. -/
import Derived.Test.YtipoenpakjpokaaGreatDoorSmall
set_option linter.unusedVariables false
set_option linter.unusedSimpArgs false
namespace Go.Proofs.YtipoenpakjpokaaGreatDoor
open Go.RowKit

theorem valSize {cs : Array Value} (h : cs.size = 22) : (Tryz.prog.info? 36).map (·.size) = some cs.size := by rw [h]; kernel_rfl
theorem valStruct : ∃ fs, Tryz.prog.underlying 36 = some (.struct fs) := by
  have h : (Tryz.prog.underlying 36).map (fun d => match d with | .struct _ => true | _ => false) = some true := by kernel_rfl
  cases hd : Tryz.prog.underlying 36 with
  | none => simp [hd] at h
  | some d => cases d <;> simp_all
theorem load_val {ops : Array Oper} {rest : List Oper} {o : Oper} {a : Act} {w : World} {Q : Exit → Act → World → Prop} (hgd : o.guard = none) (x : Operand) (ho : o.op = .load 36 x)
    (g : Nat) (hx : a.eval x = .pointer (some ⟨g, 0, none⟩)) (cs : Array Value) (hg : w.heap[g]? = some (.cells cs 36 (0, 0))) (hcs : cs.size = 22)
    (h : wpList Tryz.prog ops Q rest (a.put o.dst (.agg cs)) w) : wpList Tryz.prog ops Q (o :: rest) a w := by
  obtain ⟨fs, hu⟩ := valStruct
  exact wpList_load_row hgd 36 x ho g hx _ cs _ _ hg hu rfl (valSize hcs) h

theorem store_val {ops : Array Oper} {rest : List Oper} {o : Oper} {a : Act} {w : World} {Q : Exit → Act → World → Prop} (hgd : o.guard = none) (x y : Operand) (ho : o.op = .store 36 x y)
    (g : Nat) (hx : a.eval x = .pointer (some ⟨g, 0, none⟩)) (cs : Array Value) (hy : a.eval y = .agg cs) (old : Array Value) (hg : w.heap[g]? = some (.cells old 36 (0, 0))) (hold : old.size = 22) (hcs : cs.size = 22)
    (h1 : cs.all (·.oneCell') = true) (h : wpList Tryz.prog ops Q rest (a.put o.dst undef) (w.setRow g cs)) : wpList Tryz.prog ops Q (o :: rest) a w := by
  refine wpList_plain hgd fun _ hK => ?_
  unfold Oper.wp execOp
  simp only [ho, hx, hy, Instr.storeAt, Instr.sureAddr, Sem.run_bind, Sem.run_pure, Result.andThen_ok, run_storeVar_row _ _ _ _ _ _ hg (valSize hcs) (by rw [hold, hcs]) h1]
  exact hK _ _ h

theorem store_valW {ops : Array Oper} {rest : List Oper} {o : Oper} {a : Act} {w : World} {Q : Exit → Act → World → Prop} (hgd : o.guard = none) (x y : Operand) (ho : o.op = .store 36 x y)
    (g : Nat) (hx : a.eval x = .pointer (some ⟨g, 0, none⟩)) (cs : Array Value) (hy : a.eval y = .agg cs) (old : Array Value) (hg : w.heap[g]? = some (.cells old 36 (0, 0))) (hold : old.size = 22) (hcs : cs.size = 22)
    (h1 : cs.all (·.oneCell') = true) (W : World) (hW : W = w.setRow g cs) (h : wpList Tryz.prog ops Q rest (a.put o.dst undef) W) : wpList Tryz.prog ops Q (o :: rest) a w :=
  store_val hgd x y ho g hx cs hy old hg hold hcs h1 (hW ▸ h)

/-- The blocks below B are as they were, but for the function's own first m. -/
structure Stays (w : World) (m B : Nat) (W W' : World) : Prop where
  size : W.heap.size ≤ W'.heap.size
  blk : ∀ k, k < B → (k < w.heap.size ∨ w.heap.size + m ≤ k) → W'.heap[k]? = W.heap[k]?
theorem Stays.of_below {w W W' : World} {m B : Nat} (h : Below B W W') : Stays w m B W W' := ⟨h.size, fun k hk _ => h.block k hk⟩
theorem Stays.trans {w a b c : World} {m B : Nat} (h : Stays w m B a b) (h' : Stays w m B b c) : Stays w m B a c := ⟨Nat.le_trans h.size h'.size, fun k hk hT => (h'.blk k hk hT).trans (h.blk k hk hT)⟩
theorem Stays.set1 {w W : World} {m B : Nat} (i : Nat) (hi : i < m) (v : Value) : Stays w m B W (W.setCell ⟨w.heap.size + i, 0, none⟩ v) := ⟨by simp, fun k _ hT => Below.heap_setCell _ _ _ _ (by simp; omega)⟩
theorem Stays.alloc {w a b : World} {m B : Nat} (h : Stays w m B a b) (hB : B ≤ a.heap.size) (o : Obj) : Stays w m B a (b.alloc o) := ⟨by have := h.size; simp; omega, fun k hk hT => (Below.heap_alloc _ _ _ (by have := h.size; omega)).trans (h.blk k hk hT)⟩

end Go.Proofs.YtipoenpakjpokaaGreatDoor
