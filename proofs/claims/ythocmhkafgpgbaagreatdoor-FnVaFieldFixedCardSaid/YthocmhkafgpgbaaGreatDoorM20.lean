/- Parts of the walk. -/
import Derived.Test.YthocmhkafgpgbaaGreatDoorM01
import Derived.Test.YthocmhkafgpgbaaGreatDoorM17
import Derived.Test.YthocmhkafgpgbaaGreatDoorM19
import Derived.Laws.BytesArg
import Derived.Deep.RegionHeld3
import Derived.BigRegion
import Derived.Deep.AppendLies
import Derived.Laws.IdiomStrings
import Derived.Laws.RangeString
import Derived.Lib.SliceRun
set_option linter.unusedVariables false
set_option linter.unusedSimpArgs false
namespace Go.Proofs.YthocmhkafgpgbaaGreatDoor
open Go.RowKit
theorem valSize {cs : Array Value} (h : cs.size = 22) : (Tryz.prog.info? 52).map (·.size) = some cs.size := by rw [h]; kernel_rfl
theorem valStruct : ∃ fs, Tryz.prog.underlying 52 = some (.struct fs) := by
 have h : (Tryz.prog.underlying 52).map (fun d => match d with | .struct _ => true | _ => false) = some true := by kernel_rfl
 cases hd : Tryz.prog.underlying 52 with
 | none => simp [hd] at h
 | some d => cases d <;> simp_all
theorem load_val {ops : Array Oper} {rest : List Oper} {o : Oper} {a : Act} {w : World} {Q : Exit → Act → World → Prop} (hgd : o.guard = none) (x : Operand) (ho : o.op = .load 52 x)
  (g : Nat) (hx : a.eval x = .pointer (some ⟨g, 0, none⟩)) (cs : Array Value) (hg : w.heap[g]? = some (.cells cs 52 (0, 0))) (hcs : cs.size = 22)
  (h : wpList Tryz.prog ops Q rest (a.put o.dst (.agg cs)) w) : wpList Tryz.prog ops Q (o :: rest) a w := by
 obtain ⟨fs, hu⟩ := valStruct
 exact wpList_load_row hgd 52 x ho g hx _ cs _ _ hg hu rfl (valSize hcs) h
theorem store_val {ops : Array Oper} {rest : List Oper} {o : Oper} {a : Act} {w : World} {Q : Exit → Act → World → Prop} (hgd : o.guard = none) (x y : Operand) (ho : o.op = .store 52 x y)
  (g : Nat) (hx : a.eval x = .pointer (some ⟨g, 0, none⟩)) (cs : Array Value) (hy : a.eval y = .agg cs) (old : Array Value) (hg : w.heap[g]? = some (.cells old 52 (0, 0))) (hold : old.size = 22) (hcs : cs.size = 22)
  (h1 : cs.all (·.oneCell') = true) (h : wpList Tryz.prog ops Q rest (a.put o.dst undef) (w.setRow g cs)) : wpList Tryz.prog ops Q (o :: rest) a w := by
 refine wpList_plain hgd fun _ hK => ?_
 unfold Oper.wp execOp
 simp only [ho, hx, hy, Instr.storeAt, Instr.sureAddr, Sem.run_bind, Sem.run_pure, Result.andThen_ok, run_storeVar_row _ _ _ _ _ _ hg (valSize hcs) (by rw [hold, hcs]) h1]
 exact hK _ _ h
theorem store_valW {ops : Array Oper} {rest : List Oper} {o : Oper} {a : Act} {w : World} {Q : Exit → Act → World → Prop} (hgd : o.guard = none) (x y : Operand) (ho : o.op = .store 52 x y)
  (g : Nat) (hx : a.eval x = .pointer (some ⟨g, 0, none⟩)) (cs : Array Value) (hy : a.eval y = .agg cs) (old : Array Value) (hg : w.heap[g]? = some (.cells old 52 (0, 0))) (hold : old.size = 22) (hcs : cs.size = 22)
  (h1 : cs.all (·.oneCell') = true) (W : World) (hW : W = w.setRow g cs) (h : wpList Tryz.prog ops Q rest (a.put o.dst undef) W) : wpList Tryz.prog ops Q (o :: rest) a w :=
 store_val hgd x y ho g hx cs hy old hg hold hcs h1 (hW ▸ h)
structure Stays (w : World) (m B : Nat) (W W' : World) : Prop where
 size : W.heap.size ≤ W'.heap.size
 blk : ∀ k, k < B → (k < w.heap.size ∨ w.heap.size + m ≤ k) → W'.heap[k]? = W.heap[k]?
theorem Stays.of_below {w W W' : World} {m B : Nat} (h : Below B W W') : Stays w m B W W' := ⟨h.size, fun k hk _ => h.block k hk⟩
theorem Stays.trans {w a b c : World} {m B : Nat} (h : Stays w m B a b) (h' : Stays w m B b c) : Stays w m B a c := ⟨Nat.le_trans h.size h'.size, fun k hk hT => (h'.blk k hk hT).trans (h.blk k hk hT)⟩
theorem Stays.set1 {w W : World} {m B : Nat} (i : Nat) (hi : i < m) (v : Value) : Stays w m B W (W.setCell ⟨w.heap.size + i, 0, none⟩ v) := ⟨by simp, fun k _ hT => Below.heap_setCell _ _ _ _ (by simp; omega)⟩
theorem Stays.alloc {w a b : World} {m B : Nat} (h : Stays w m B a b) (hB : B ≤ a.heap.size) (o : Obj) : Stays w m B a (b.alloc o) := ⟨by have := h.size; simp; omega, fun k hk hT => (Below.heap_alloc _ _ _ (by have := h.size; omega)).trans (h.blk k hk hT)⟩
end Go.Proofs.YthocmhkafgpgbaaGreatDoor
namespace Go.Proofs.YthocmhkafgpgbaaGreatDoor
open Go.RowKit
theorem fbIdle (p q r : Value) (w : World) : CallsD Tryz.prog 21 #[p, q, r] .returning w fun e u' w' => e = .returned (.tuple #[]) ∧ u' = .returning ∧ w = w' := by
 refine callsD_of_wpS Tryz.func21 rfl fun c₀ cs hu => ?_
 apply wpS_seq
 apply wpS_region
 simp [wpOpsS, go_sem, recoverD, hu, Tryz.ntmps21, Exit.thenS]
 refine wpS_cond (t := false) (by simp [Act.eval, Array.replicate]) ?_
 simp only [Bool.false_eq_true, if_false]
 refine wpS_of_wp (wp_skip ?_)
 cases c₀
 simp_all [bodyPostS, results, Tryz.results21]
def FieldAt (w : World) (F : Nat) (tc prec scale : Int) : Prop := ∃ nm, w.heap[F]? = some (.cells (fieldCells nm tc prec scale) 113 (0, 0))
theorem FieldAt.cells {w : World} {F : Nat} {tc prec scale : Int} (h : FieldAt w F tc prec scale) :
  w.cell? ⟨F, 2, none⟩ = some (.int .i64 prec) ∧ w.cell? ⟨F, 3, none⟩ = some (.int .i64 scale) ∧ w.cell? ⟨F, 5, none⟩ = some (.int .u8 tc) := by
 obtain ⟨nm, h⟩ := h
 refine ⟨?_, ?_, ?_⟩ <;> rw [cellOf h] <;> rfl
theorem FieldAt.below {w w' : World} {F B : Nat} {tc prec scale : Int} (h : FieldAt w F tc prec scale) (hb : Below B w w') (hF : F < B) : FieldAt w' F tc prec scale := by
 obtain ⟨nm, h⟩ := h
 exact ⟨nm, (hb.block _ hF).trans h⟩
def fbWorld (w : World) (cs : Array Value) : World := (((w.alloc (.cells cs 52)).alloc (.cells #[.slice none 0 0] 22)).alloc (.cells #[.int .i64 0] 3)).alloc (.cells #[.int .i64 0] 3)
structure ResBlk (w0 w : World) (t : TypeId) (v a b : Value) : Prop where
 r0 : w.heap[w0.heap.size + 1]? = some (.cells #[v] t (0, 0))
 r1 : w.heap[w0.heap.size + 1 + 1]? = some (.cells #[a] 3 (0, 0))
 r2 : w.heap[w0.heap.size + 1 + 1 + 1]? = some (.cells #[b] 3 (0, 0))
theorem ResBlk.below {w0 w w' : World} {t : TypeId} {v a b : Value} {B : Nat} (h : ResBlk w0 w t v a b) (hb : Below B w w') (hB : w0.heap.size + 1 + 1 + 1 < B) : ResBlk w0 w' t v a b :=
 ⟨(hb.block _ (by omega)).trans h.r0, (hb.block _ (by omega)).trans h.r1, (hb.block _ (by omega)).trans h.r2⟩
theorem fbWorld_size (w : World) (cs : Array Value) : (fbWorld w cs).heap.size = w.heap.size + 1 + 1 + 1 + 1 := by simp [fbWorld]
theorem fbWorld_below (w : World) (cs : Array Value) : Below w.heap.size w (fbWorld w cs) :=
 (((Below.refl w.heap.size w).alloc (Nat.le_refl _) _).alloc (by simp) _).alloc (by simp; omega) _ |>.alloc (by simp; omega) _
theorem fbWorld_res (w : World) (cs : Array Value) : ResBlk w (fbWorld w cs) 22 (.slice none 0 0) (.int .i64 0) (.int .i64 0) :=
 ⟨blk_alloc (blk_alloc (blk_new' _ _ _ (by simp)) _) _, blk_alloc (blk_new' _ _ _ (by simp)) _, blk_new' _ _ _ (by simp)⟩
theorem ResBlk.lt {w0 w : World} {t : TypeId} {v a b : Value} (h : ResBlk w0 w t v a b) : w0.heap.size + 1 + 1 + 1 < w.heap.size := sizeOf_blk h.r2
theorem ResBlk.set1 {w0 w : World} {t : TypeId} {v a b : Value} (h : ResBlk w0 w t v a b) (u : Value) : ResBlk w0 (w.setCell ⟨w0.heap.size + 1 + 1, 0, none⟩ u) t v u b :=
 ⟨(blk_setCell_ne (by simp) _).trans h.r0, blk_setCell h.r1 0 u, (blk_setCell_ne (by simp) _).trans h.r2⟩
theorem ResBlk.alloc {w0 w : World} {t : TypeId} {v a b : Value} (h : ResBlk w0 w t v a b) (o : Obj) : ResBlk w0 (w.alloc o) t v a b := ⟨blk_alloc h.r0 _, blk_alloc h.r1 _, blk_alloc h.r2 _⟩
theorem ResBlk.cells {w0 w : World} {t : TypeId} {v a b : Value} (h : ResBlk w0 w t v a b) :
  w.cell? ⟨w0.heap.size + 1, 0, none⟩ = some v ∧ w.cell? ⟨w0.heap.size + 1 + 1, 0, none⟩ = some a ∧ w.cell? ⟨w0.heap.size + 1 + 1 + 1, 0, none⟩ = some b ∧
  w.frozen? ⟨w0.heap.size + 1, 0, none⟩ = false ∧ w.frozen? ⟨w0.heap.size + 1 + 1, 0, none⟩ = false ∧ w.frozen? ⟨w0.heap.size + 1 + 1 + 1, 0, none⟩ = false :=
 ⟨by rw [cellOf h.r0]; rfl, by rw [cellOf h.r1]; rfl, by rw [cellOf h.r2]; rfl, frozenOf h.r0 0, frozenOf h.r1 0, frozenOf h.r2 0⟩
theorem fieldMade (w1 : World) (tc prec scale : Int) : FieldAt ((w1.alloc (.cells #[.slice none 0 0] 107)).alloc (.cells (fieldCells w1.heap.size tc prec scale) 113)) (w1.heap.size + 1) tc prec scale ∧
  Below w1.heap.size w1 ((w1.alloc (.cells #[.slice none 0 0] 107)).alloc (.cells (fieldCells w1.heap.size tc prec scale) 113)) :=
 ⟨⟨_, blk_new' _ _ _ (by simp)⟩, ((Below.refl w1.heap.size w1).alloc (Nat.le_refl _) _).alloc (by simp) _⟩
end Go.Proofs.YthocmhkafgpgbaaGreatDoor
namespace Go.Proofs.YthocmhkafgpgbaaGreatDoor
open Go.RowKit
theorem decError_any (w : World) (base D S rb ro n c : Nat) (tr : Value) (dfv emp : Bool) (k : Nat) (h : DecAt w base D S rb ro n c tr dfv emp k) :
  Calls Tryz.prog 33 #[.pointer (some ⟨D, 0, none⟩)] w fun e w' => e = .returned .nilIface ∧ w = w' := by
 obtain ⟨c2, c3, c4, c5, c6⟩ := h.cells
 go_enter Tryz.func33, Tryz.ntmps33
 go_wp2
 go_ret
 exact ⟨rfl, rfl⟩
theorem decCnt_any (w : World) (base D S rb ro n c : Nat) (tr : Value) (dfv emp : Bool) (k : Nat) (h : DecAt w base D S rb ro n c tr dfv emp k) :
  Calls Tryz.prog 35 #[.pointer (some ⟨D, 0, none⟩)] w fun e w' => e = .returned (.int .i64 k) ∧ w = w' := by
 obtain ⟨c2, c3, c4, c5, c6⟩ := h.cells
 go_enter Tryz.func35, Tryz.ntmps35
 go_wp2
 go_ret
 exact ⟨rfl, rfl⟩
end Go.Proofs.YthocmhkafgpgbaaGreatDoor
namespace Go.Proofs.YthocmhkafgpgbaaGreatDoor
open Go.RowKit
theorem leAt {bs : List Int} {k m : Nat} {i : Int} (hx : (bs.drop k).take m = leB i m) (j : Nat) (hj : j < m) (hb : k + j < bs.length) : bs[k + j] = (leB i m)[j]'(by simpa using hj) := by
 have h := congrArg (·[j]?) hx
 simp only [List.getElem?_take, hj, if_true, List.getElem?_drop] at h
 rw [List.getElem?_eq_getElem hb, List.getElem?_eq_getElem (by simpa using hj)] at h
 exact Option.some.inj h
end Go.Proofs.YthocmhkafgpgbaaGreatDoor
namespace Go.Proofs.YthocmhkafgpgbaaGreatDoor
open Go.RowKit
def noVal : Array Value := valCells 0 false 0 0 (.slice none 0 0) ⟨#[]⟩ false (.slice none 0 0) (.slice none 0 0)
structure ValBlk (w0 w : World) (v : Array Value) (a b : Value) : Prop where
 r0 : w.heap[w0.heap.size]? = some (.cells v 52 (0, 0))
 r1 : w.heap[w0.heap.size + 1]? = some (.cells #[a] 3 (0, 0))
 r2 : w.heap[w0.heap.size + 1 + 1]? = some (.cells #[b] 3 (0, 0))
theorem ValBlk.lt {w0 w : World} {v : Array Value} {a b : Value} (h : ValBlk w0 w v a b) : w0.heap.size + 1 + 1 < w.heap.size := sizeOf_blk h.r2
theorem ValBlk.below {w0 w w' : World} {v : Array Value} {a b : Value} {B : Nat} (h : ValBlk w0 w v a b) (hb : Below B w w') (hB : w0.heap.size + 1 + 1 < B) : ValBlk w0 w' v a b :=
 ⟨(hb.block _ (by omega)).trans h.r0, (hb.block _ (by omega)).trans h.r1, (hb.block _ (by omega)).trans h.r2⟩
theorem ValBlk.cells {w0 w : World} {v : Array Value} {a b : Value} (h : ValBlk w0 w v a b) :
  w.cell? ⟨w0.heap.size + 1, 0, none⟩ = some a ∧ w.cell? ⟨w0.heap.size + 1 + 1, 0, none⟩ = some b ∧
  w.frozen? ⟨w0.heap.size + 1, 0, none⟩ = false ∧ w.frozen? ⟨w0.heap.size + 1 + 1, 0, none⟩ = false :=
 ⟨by rw [cellOf h.r1]; rfl, by rw [cellOf h.r2]; rfl, frozenOf h.r1 0, frozenOf h.r2 0⟩
theorem ValBlk.made (w : World) (v : Array Value) (a b : Value) : ValBlk w (((w.alloc (.cells v 52)).alloc (.cells #[a] 3)).alloc (.cells #[b] 3)) v a b ∧
  Below w.heap.size w (((w.alloc (.cells v 52)).alloc (.cells #[a] 3)).alloc (.cells #[b] 3)) :=
 ⟨⟨blk_alloc (blk_alloc (blk_new _ _) _) _, blk_alloc (blk_new' _ _ _ (by simp)) _, blk_new' _ _ _ (by simp)⟩, (((Below.refl w.heap.size w).alloc (Nat.le_refl _) _).alloc (by simp) _).alloc (by simp; omega) _⟩
end Go.Proofs.YthocmhkafgpgbaaGreatDoor
namespace Go.Proofs.YthocmhkafgpgbaaGreatDoor
open Go.RowKit
theorem roIdle (p q r : Value) (w : World) : CallsD Tryz.prog 30 #[p, q, r] .returning w fun e u' w' => e = .returned (.tuple #[]) ∧ u' = .returning ∧ w = w' := by
 refine callsD_of_wpS Tryz.func30 rfl fun c₀ cs hu => ?_
 apply wpS_seq
 apply wpS_region
 simp [wpOpsS, go_sem, recoverD, hu, Tryz.ntmps30, Exit.thenS]
 refine wpS_cond (t := false) (by simp [Act.eval, Array.replicate]) ?_
 simp only [Bool.false_eq_true, if_false]
 refine wpS_of_wp (wp_skip ?_)
 cases c₀
 simp_all [bodyPostS, results, Tryz.results30]
theorem zzResultOf_any (w : World) (tc scale D : Value) (Q : Value → Value → World → Prop)
  (h : Calls Tryz.prog 53 #[tc, D, .nilIface, .int .i64 0, scale] w fun e w' => ∃ x y, e = .returned (.tuple #[x, y]) ∧ Q x y w') :
  Calls Tryz.prog 32 #[tc, scale, D] w fun e w' => ∃ x y, e = .returned (.tuple #[x, y]) ∧ Q x y w' := by
 have h' := Lib.hid h; clear h
 go_enter Tryz.func32, Tryz.ntmps32
 go_wp2_with fail
 refine h'.out.mono ?_
 rintro e w' ⟨x, y, rfl, hQ⟩
 go_wp2_with fail
 go_ret2
 exact ⟨x, y, rfl, hQ⟩
end Go.Proofs.YthocmhkafgpgbaaGreatDoor
namespace Go.Proofs.YthocmhkafgpgbaaGreatDoor
open Go.RowKit
theorem results_val (w : World) (b : Nat) (v : Array Value) (hv : v.size = 22) (hb : w.heap[b]? = some (.cells v 52 (0, 0))) (tmps : Array Value) (h2 : tmps.getD 2 undef = .pointer (some ⟨b, 0, none⟩)) :
  (results Tryz.f34 tmps).run Tryz.prog w = .ok (.agg v) w := by
 obtain ⟨fs, hu⟩ := valStruct
 exact results_cell_row Tryz.results34 tmps w b 52 v (0, 0) _ h2 hb hu rfl (valSize hv)
@[go_sem] theorem as_b_b (v : Value) (w : World) : (Instr.typeAssert (.iface 4 v) 20 4 true).run Tryz.prog w = .ok (.tuple #[v, .bool true]) w := by kernel_rfl
@[go_sem] theorem as_i_b (v : Value) (w : World) : (Instr.typeAssert (.iface 2 v) 20 4 true).run Tryz.prog w = .ok (.tuple #[.bool false, .bool false]) w := by kernel_rfl
@[go_sem] theorem as_i_i (v : Value) (w : World) : (Instr.typeAssert (.iface 2 v) 20 2 true).run Tryz.prog w = .ok (.tuple #[v, .bool true]) w := by kernel_rfl
@[go_sem] theorem as_f_b (v : Value) (w : World) : (Instr.typeAssert (.iface 45 v) 20 4 true).run Tryz.prog w = .ok (.tuple #[.bool false, .bool false]) w := by kernel_rfl
@[go_sem] theorem as_f_i (v : Value) (w : World) : (Instr.typeAssert (.iface 45 v) 20 2 true).run Tryz.prog w = .ok (.tuple #[.int .i64 0, .bool false]) w := by kernel_rfl
@[go_sem] theorem as_f_f (v : Value) (w : World) : (Instr.typeAssert (.iface 45 v) 20 45 true).run Tryz.prog w = .ok (.tuple #[v, .bool true]) w := by kernel_rfl
@[go_sem] theorem as_s_b (v : Value) (w : World) : (Instr.typeAssert (.iface 22 v) 20 4 true).run Tryz.prog w = .ok (.tuple #[.bool false, .bool false]) w := by kernel_rfl
@[go_sem] theorem as_s_i (v : Value) (w : World) : (Instr.typeAssert (.iface 22 v) 20 2 true).run Tryz.prog w = .ok (.tuple #[.int .i64 0, .bool false]) w := by kernel_rfl
@[go_sem] theorem as_s_f (v : Value) (w : World) : (Instr.typeAssert (.iface 22 v) 20 45 true).run Tryz.prog w = .ok (.tuple #[.float .f64 0, .bool false]) w := by kernel_rfl
@[go_sem] theorem as_s_s (v : Value) (w : World) : (Instr.typeAssert (.iface 22 v) 20 22 true).run Tryz.prog w = .ok (.tuple #[v, .bool true]) w := by kernel_rfl
@[go_sem] theorem as_t_b (v : Value) (w : World) : (Instr.typeAssert (.iface 9 v) 20 4 true).run Tryz.prog w = .ok (.tuple #[.bool false, .bool false]) w := by kernel_rfl
@[go_sem] theorem as_t_i (v : Value) (w : World) : (Instr.typeAssert (.iface 9 v) 20 2 true).run Tryz.prog w = .ok (.tuple #[.int .i64 0, .bool false]) w := by kernel_rfl
@[go_sem] theorem as_t_f (v : Value) (w : World) : (Instr.typeAssert (.iface 9 v) 20 45 true).run Tryz.prog w = .ok (.tuple #[.float .f64 0, .bool false]) w := by kernel_rfl
@[go_sem] theorem as_t_s (v : Value) (w : World) : (Instr.typeAssert (.iface 9 v) 20 22 true).run Tryz.prog w = .ok (.tuple #[.slice none 0 0, .bool false]) w := by kernel_rfl
@[go_sem] theorem as_t_t (v : Value) (w : World) : (Instr.typeAssert (.iface 9 v) 20 9 true).run Tryz.prog w = .ok (.tuple #[v, .bool true]) w := by kernel_rfl
end Go.Proofs.YthocmhkafgpgbaaGreatDoor
namespace Go.Proofs.YthocmhkafgpgbaaGreatDoor
open Go.RowKit
@[go_sem] theorem as_b_b1 (v : Value) (w : World) : (Instr.typeAssert (.iface 4 v) 20 4 false).run Tryz.prog w = .ok v w := by kernel_rfl
theorem zzFieldBytes_any (w : World) (p q x : Value) (Q : World → Prop)
  (h : Calls Tryz.prog 46 #[p, q, x] w fun e w' => e = .returned .nilIface ∧ Q w') :
  Calls Tryz.prog 26 #[p, q, x] w fun e w' => e = .returned .nilIface ∧ Q w' := by
 have h' := Lib.hid h; clear h
 go_enter Tryz.func26, Tryz.ntmps26
 go_wp2_with fail
 refine h'.out.mono ?_
 rintro e w' ⟨rfl, hQ⟩
 go_wp2_with fail
 go_ret
 exact ⟨rfl, hQ⟩
end Go.Proofs.YthocmhkafgpgbaaGreatDoor
namespace Go.Proofs.YthocmhkafgpgbaaGreatDoor
open Go.RowKit
@[go_sem] theorem as_i_i1 (v : Value) (w : World) : (Instr.typeAssert (.iface 2 v) 20 2 false).run Tryz.prog w = .ok v w := by kernel_rfl
end Go.Proofs.YthocmhkafgpgbaaGreatDoor
namespace Go.Proofs.YthocmhkafgpgbaaGreatDoor
open Go.RowKit
theorem Input.of_row {w : World} {base n : Nat} {v : Value} {bs : List Int} (h : w.ownsRow base 5 1 v n (u8s bs)) (hn : 0 < n) :
  ∃ g c, v = .slice (some ⟨g, 0, none⟩) n c ∧ base ≤ g ∧ g < w.heap.size ∧ Input w g 0 n c bs := by
 obtain ⟨hl, h | ⟨g, cap, cur, hv, hg, hb, hn', hc, hs, ht⟩⟩ := h
 ·omega
 ·have hlen : bs.length = n := by simpa using hl
  refine ⟨g, cap, hv, hg, sizeOf_blk hb, hlen, hn', hc, fun j hj => ?_⟩
  have h1 : (cur.toList.take (n * 1))[j]? = some (.int .u8 bs[j]) := by rw [ht]; simp [u8s, List.getElem?_eq_getElem hj]
  rw [cellOf hb]
  rw [List.getElem?_take] at h1
  split at h1
  ·simpa using h1
  ·simp at h1
theorem conv_input {w : World} {rb n c : Nat} {bs : List Int} (h : Input w rb 0 n c bs) :
  (convert 22 9 (.slice (some ⟨rb, 0, none⟩) n c)).run Tryz.prog w = .ok (.string (strOfNums bs)) w :=
 run_convert_bytes_arg w 22 5 Tryz.underlying22 Tryz.underlying5 rb 0 n c bs h.len (fun i hi => by
  have := h.cell i (by have := h.len; omega)
  rw [this, List.getD_eq_getElem?_getD, List.getElem?_eq_getElem (by have := h.len; omega)]; rfl) 9 Tryz.underlying9
theorem step_append_g {P : Program} {w : World} {ops : Array Oper} {o : Oper} {a : Act} {K : Act → World → Prop} {Q : Exit → Act → World → Prop} {E : Prop} (hw : Region.wanted o (yielded ops a.tmps) = true) (s x : Operand) (t : TypeId)
  (ho : o.op = .call { callee := .builtin .append, args := #[s, x], argTypes := #[t, t] })
  (base : Nat) (e : TypeId) (i : TypeInfo) (z : Value) (size bytes : Nat) (ht : P.underlying t = some (.slice e)) (hi : P.info? e = some i) (hz : i.zero = some z)
  (hsize : i.size = size) (hby : i.bytes = bytes) (hzs : z.cells.size = size) (hsz : 0 < size)
  (v : Value) (n : Nat) (xs : List Value) (hs : a.eval s = v) (hown : w.ownsRow base e size v n xs)
  (ad : Addr) (m c : Nat) (news : List Value) (hx : a.eval x = .slice (some ad) m c) (hl : news.length = m * size) (hnews : ∀ j u, news[j]? = some u → w.cell? (ad.add j) = some u) (h1 : ∀ u ∈ news, u.oneCell' = true)
  (hm : 0 < m) (h63 : n + m ≤ maxLen) (hbytes : (n + m) * bytes ≤ 140737488355328) (hbase : base ≤ w.heap.size) (H : Nat) (hH : w.heap.size = H)
  (h : ∀ g cap w', w'.ownsRow base e size (.slice (some ⟨g, 0, none⟩) (n + m) cap) (n + m) (xs ++ news) → w.grownBy w' v.ownBlock → (v.ownBlock = some g ∨ g = H) → g < w'.heap.size → K (a.put o.dst (.slice (some ⟨g, 0, none⟩) (n + m) cap)) w') :
  if Region.wanted o (yielded ops a.tmps) = true then Oper.wp P o a w K Q else E := by
 rw [if_pos hw]
 exact wp_append_lies w s x t ho base e i z size bytes ht hi hz hsize hby hzs hsz v n xs hs hown ad m c news hx hl hnews h1 hm h63 hbytes hbase H hH h
theorem Input.news {w : World} {rb n c : Nat} {bs : List Int} (h : Input w rb 0 n c bs) : ∀ j u, (u8s bs)[j]? = some u → w.cell? ((⟨rb, 0, none⟩ : Addr).add j) = some u := by
 intro j u hj
 obtain ⟨hj', rfl⟩ := List.getElem?_eq_some_iff.1 hj
 simp only [List.length_map] at hj'
 simp only [List.getElem_map]
 rw [Addr.add_lit]
 exact h.cell j hj'
theorem u8s_one (bs : List Int) : ∀ u ∈ u8s bs, u.oneCell' = true := by
 intro u hu
 obtain ⟨_, _, rfl⟩ := List.mem_map.1 hu
 rfl
theorem conv_row {w : World} {base g n c : Nat} {bs : List Int} (h : w.ownsRow base 5 1 (.slice (some ⟨g, 0, none⟩) n c) n (u8s bs)) (hn : 0 < n) :
  (convert 22 9 (.slice (some ⟨g, 0, none⟩) n c)).run Tryz.prog w = .ok (.string (strOfNums bs)) w := by
 obtain ⟨g', c', he, _, _, hin⟩ := Input.of_row h hn
 simp only [Value.slice.injEq, Option.some.injEq, Addr.mk.injEq, and_true, true_and] at he
 obtain ⟨rfl, rfl⟩ := he
 exact conv_input hin
theorem litRow (w : World) (x : Int) : (w.alloc (.cells #[.int .u8 x] 5)).ownsRow w.heap.size 5 1 (.slice (some ⟨w.heap.size, 0, none⟩) 1 1) 1 (u8s [x]) :=
 World.ownsRow_lit w #[.int .u8 x] 1 (Nat.le_refl _) (by decide) rfl
end Go.Proofs.YthocmhkafgpgbaaGreatDoor
namespace Go.Proofs.YthocmhkafgpgbaaGreatDoor
open Go.RowKit
set_option maxRecDepth 100000 in
theorem decBoolT (w : World) (base D S rb ro n c : Nat) (tr : Value) (dfv emp : Bool) (k : Nat) (bs : List Int) (hx : bs[k]? = some 1) (h : DecAt w base D S rb ro n c tr dfv emp k) (hin : Input w rb ro n c bs) :
  Calls Tryz.prog 98 #[.pointer (some ⟨D, 0, none⟩)] w fun e w' => e = .returned (.bool true) ∧ DecAt w' base D S rb ro n c tr dfv emp (k + 1) ∧ Below base w w' := by
 have hl : k < bs.length := (List.getElem?_eq_some_iff.1 hx).1
 have hx' : bs[k] = 1 := (List.getElem?_eq_some_iff.1 hx).2
 have hn := hin.len
 go_enter Tryz.func98, Tryz.ntmps98
 go_wp2_with fail
 refine (decByte_any w base D S rb ro n c tr dfv emp k bs h hin (by omega)).mono ?_
 rintro e w1 ⟨rfl, hd1, hk, hb⟩
 rw [hx']
 go_wp2_with fail
 go_ret
 exact ⟨by simp, hd1, hb⟩
end Go.Proofs.YthocmhkafgpgbaaGreatDoor
namespace Go.Proofs.YthocmhkafgpgbaaGreatDoor
open Go.RowKit
set_option maxRecDepth 100000 in
set_option maxHeartbeats 1000000 in
theorem fbCoreT (w : World) (tc prec scale sz : Int) (cs : Array Value) (hcs : cs.size = 22) (ys : List Int) (R : Value → Nat → World → Prop)
  (hp0 : -10 ≤ prec) (hp1 : prec ≤ 1000) (hs0 : -10 ≤ scale) (hs1 : scale ≤ 1000) (ht0 : 0 ≤ tc) (ht1 : tc ≤ 255)
  (hany : ∀ W : World, Below w.heap.size w W → w.heap.size + 4 ≤ W.heap.size → Calls Tryz.prog 22 #[.agg cs] W fun e w' => ∃ x, e = .returned (.tuple #[x, .bool true]) ∧ R x w'.heap.size w' ∧ Below W.heap.size W w')
  (hR : ∀ (x : Value) (B : Nat) (W W' : World), R x B W → Stays w 4 B W W' → R x B W')
  (hsize : ∀ (W : World) (x : Value) (B F : Nat), FieldAt W F tc prec scale → R x B W → Calls Tryz.prog 25 #[.pointer (some ⟨F, 0, none⟩), x] W fun e w' => e = .returned (.int .i64 sz) ∧ Below W.heap.size W w')
  (hprm : ∀ (W : World) (x : Value) (base B E S Wr F : Nat) (tr : Value), TrE tr → FieldAt W F tc prec scale → F < base → B ≤ base → R x B W → EncAt W base E S Wr tr [] →
   Calls Tryz.prog 26 #[.pointer (some ⟨F, 0, none⟩), .pointer (some ⟨E, 0, none⟩), x] W fun e w' => e = .returned .nilIface ∧ EncAt w' base E S Wr tr ys ∧ Below base W w') :
  Calls Tryz.prog 8 #[.int .i64 tc, .agg cs, .int .i64 prec, .int .i64 scale] w fun e w' =>
   ∃ v, e = .returned (.tuple #[v, .int .i64 sz, .int .i64 0]) ∧ w'.ownsRow w.heap.size 5 1 v ys.length (u8s ys) ∧ Below w.heap.size w w' := by
 have hmf : ∀ (fn : Fn) (first cap : Array Value) (w : World), (Instr.makeFunc fn first cap).run Tryz.prog w = .ok (.func fn first cap) w := fun _ _ _ _ => rfl
 have htc : IntKind.u8.wrap tc = tc := by simp [IntKind.wrap, IntKind.bits, IntKind.signed]; omega
 have hany' := Lib.hid hany; clear hany
 have hR' := Lib.hid hR; clear hR
 have hsize' := Lib.hid hsize; clear hsize
 have hprm' := Lib.hid hprm; clear hprm
 have hblk : (fbWorld w cs).heap[w.heap.size]? = some (.cells cs 52 (0, 0)) := blk_alloc (blk_alloc (blk_alloc (blk_new _ _) _) _) _
 unfold fbWorld at hblk
 go_enter_defers Tryz.func8, Tryz.ntmps8
 go_wp2_with (refine load_val rfl (.tmp 5) rfl _ rfl cs hblk hcs ?_)
 clear hblk
 have hb0 := fbWorld_below w cs
 have q := fbWorld_res w cs
 have hz0 : w.heap.size + 4 ≤ (fbWorld w cs).heap.size := by rw [fbWorld_size]; omega
 generalize hW : (((w.alloc (Obj.cells cs 52)).alloc (Obj.cells #[Value.slice none 0 0] 22)).alloc (Obj.cells #[Value.int IntKind.i64 0] 3)).alloc (Obj.cells #[Value.int IntKind.i64 0] 3) = W0
 have hW' : fbWorld w cs = W0 := hW
 rw [hW'] at hb0 q hz0
 clear hW hW'
 refine (hany'.out W0 hb0 hz0).mono ?_
 rintro e w1 ⟨x, rfl, hR1, hb1⟩
 have p1 := q.below hb1 q.lt
 have hs1' := p1.lt
 have hbw1 : Below w.heap.size w w1 := hb0.trans (hb1.mono hb0.size)
 clear q hb0 hb1
 go_wp2_with fail
 refine (near_any prec _ hp0 hp1).mono ?_
 rintro e w2 ⟨rfl, rfl⟩
 go_wp2_with fail
 refine (near_any scale _ hs0 hs1).mono ?_
 rintro e w2 ⟨rfl, rfl⟩
 go_wp2_with fail
 refine (field_any tc prec scale _).mono ?_
 rintro e w2 ⟨rfl, rfl⟩
 obtain ⟨hF, hbF⟩ := fieldMade w1 tc prec scale
 have hR2 := hR'.out _ _ _ _ hR1 (.of_below hbF)
 go_wp2_with fail
 refine (hsize'.out _ _ _ _ hF hR2).mono ?_
 rintro e w2 ⟨rfl, hb2⟩
 have hB1 : Below w1.heap.size w1 w2 := hbF.trans (hb2.mono hbF.size)
 have hF2 := hF.below hb2 (by simp)
 have hs2 := sizeOf_blk hF2.choose_spec
 have hR3 := hR'.out _ _ _ _ hR1 (.of_below hB1)
 have p2 := p1.below hB1 hs1'
 clear hF hbF hR2
 obtain ⟨c0, c1, c2, f0, f1, f2⟩ := p2.cells
 go_wp2_with fail
 have p3 := (p2.set1 (.int .i64 sz)).alloc (.cells #[.slice none 0 0] 72)
 have hbw3 : Below w.heap.size w ((w2.setCell ⟨w.heap.size + 1 + 1, 0, none⟩ (.int .i64 sz)).alloc (.cells #[.slice none 0 0] 72)) :=
  ((hbw1.trans (hB1.mono hbw1.size)).setCell (by simp; omega) _).alloc (by have := hbw1.size; have := hB1.size; simp; omega) _
 have hR4 : R x w1.heap.size ((w2.setCell ⟨w.heap.size + 1 + 1, 0, none⟩ (.int .i64 sz)).alloc (.cells #[.slice none 0 0] 72)) :=
  hR'.out _ _ _ _ hR3 ((Stays.set1 2 (by omega) (.int .i64 sz)).alloc hB1.size _)
 have hF3 : FieldAt ((w2.setCell ⟨w.heap.size + 1 + 1, 0, none⟩ (.int .i64 sz)).alloc (.cells #[.slice none 0 0] 72)) (w1.heap.size + 1) tc prec scale := by
  obtain ⟨nm, h⟩ := hF2
  exact ⟨nm, blk_alloc ((blk_setCell_ne (by simp; omega) _).trans h) _⟩
 have hW : ((w2.setCell ⟨w.heap.size + 1 + 1, 0, none⟩ (.int .i64 sz)).alloc (.cells #[.slice none 0 0] 72)).heap[w2.heap.size]? = some (.cells #[.slice none 0 0] 72 (0, 0)) := blk_new' _ _ _ (by simp)
 have hsz3 : ((w2.setCell ⟨w.heap.size + 1 + 1, 0, none⟩ (.int .i64 sz)).alloc (.cells #[.slice none 0 0] 72)).heap.size = w2.heap.size + 1 := by simp
 generalize ((w2.setCell ⟨w.heap.size + 1 + 1, 0, none⟩ (.int .i64 sz)).alloc (.cells #[.slice none 0 0] 72)) = w3 at *
 clear c0 c1 c2 f0 f1 f2 hR3 hF2
 refine (encoder_any w3 w2.heap.size w2.heap.size hW (Nat.le_refl _)).mono ?_
 rintro e w4 ⟨E, S, tr, rfl, hTr, hE, hb4⟩
 have hR5 := hR'.out _ _ _ _ hR4 (.of_below (hb4.mono (by have := hB1.size; omega)))
 have hF4 := hF3.below hb4 (by omega)
 have p4 := p3.below hb4 (by omega)
 go_wp2_with fail
 refine (hprm'.out w4 x w2.heap.size w1.heap.size E S w2.heap.size (w1.heap.size + 1) tr hTr hF4 hs2 (by omega) hR5 hE).mono ?_
 rintro e w5 ⟨rfl, hE5, hb5⟩
 have p5 := p4.below hb5 (by omega)
 have hbw5 : Below w.heap.size w w5 := (hbw3.trans (hb4.mono hbw3.size)).trans (hb5.mono (by have := hbw1.size; have := hB1.size; omega))
 obtain ⟨v, ⟨hv, ho⟩, hS⟩ := hE5.wr
 obtain ⟨A, c, rfl⟩ := ownsRow_slice ho
 have cW : w5.cell? ⟨w2.heap.size, 0, none⟩ = some (.slice A ys.length c) := by rw [cellOf hv]; rfl
 obtain ⟨c0, c1, c2, f0, f1, f2⟩ := p5.cells
 go_wp2_with fail
 go_region
 all_goals go_wp2_with fail
 have p6 : ResBlk w ((((w5.setCell ⟨w.heap.size + 1, 0, none⟩ (.slice A ys.length c)).setCell ⟨w.heap.size + 1 + 1, 0, none⟩ (.int .i64 sz)).setCell ⟨w.heap.size + 1 + 1 + 1, 0, none⟩ (.int .i64 0)).drew) 22 (.slice A ys.length c) (.int .i64 sz) (.int .i64 0) :=
  ⟨(blk_setCell_ne (by simp; try omega) _).trans ((blk_setCell_ne (by simp; try omega) _).trans (blk_setCell p5.r0 0 _)), (blk_setCell_ne (by simp) _).trans (blk_setCell ((blk_setCell_ne (by simp) _).trans p5.r1) 0 _),
   blk_setCell ((blk_setCell_ne (by simp; try omega) _).trans ((blk_setCell_ne (by simp; try omega) _).trans p5.r2)) 0 _⟩
 have k6 : Keeps (fun k => k ≤ w.heap.size + 3 ∧ w.heap.size ≤ k) w5 ((((w5.setCell ⟨w.heap.size + 1, 0, none⟩ (.slice A ys.length c)).setCell ⟨w.heap.size + 1 + 1, 0, none⟩ (.int .i64 sz)).setCell ⟨w.heap.size + 1 + 1 + 1, 0, none⟩ (.int .i64 0)).drew) :=
  (((((Keeps.refl _ w5).setCell _ _ (fun _ => ⟨by show _ + _ ≤ _; omega, by show _ ≤ _ + _; omega⟩)).setCell _ _ (fun _ => ⟨by show _ + _ ≤ _; omega, by show _ ≤ _ + _; omega⟩)).setCell _ _ (fun _ => ⟨by show _ + _ ≤ _; omega, by show _ ≤ _ + _; omega⟩)).drew)
 clear c0 c1 c2 f0 f1 f2
 generalize ((((w5.setCell ⟨w.heap.size + 1, 0, none⟩ (.slice A ys.length c)).setCell ⟨w.heap.size + 1 + 1, 0, none⟩ (.int .i64 sz)).setCell ⟨w.heap.size + 1 + 1 + 1, 0, none⟩ (.int .i64 0)).drew) = w6 at *
 refine leaves_cons (by simp) rfl ?_
 refine (fbIdle _ _ _ w6).mono ?_
 rintro e u w7 ⟨rfl, rfl, rfl⟩
 obtain ⟨c0, c1, c2, f0, f1, f2⟩ := p6.cells
 refine ⟨.tuple #[.slice A ys.length c, .int .i64 sz, .int .i64 0], ?_, _, rfl, ?_, hbw5.trans (k6.below hbw5.size (by intro k hk; omega))⟩
 ·simp [results, Tryz.results8, go_sem, c0, c1, c2]
 ·have := k6.ownsRow ho (fun k hk hT => by have := ownBlock_ge ho k hk.symm; have := hB1.size; omega)
  exact ⟨this.1, this.2.imp id fun ⟨g, cap, cur, a, b, r⟩ => ⟨g, cap, cur, a, by have := hB1.size; omega, r⟩⟩
end Go.Proofs.YthocmhkafgpgbaaGreatDoor
namespace Go.Proofs.YthocmhkafgpgbaaGreatDoor
open Go.RowKit
def lenB (n : Nat) : List Int := if n ≤ 245 then [(n : Int)] else 246 :: leB n 2
def numsOf (s : ByteArray) : List Int := s.data.toList.map fun c => (c.toNat : Int)
inductive TxtAny (base : Nat) (w : World) (bs : List Int) : Value → Prop
 | bytes (g c : Nat) (hin : Input w g 0 bs.length c bs) (hg : g < base) : TxtAny base w bs (.iface 22 (.slice (some ⟨g, 0, none⟩) bs.length c))
 | str (s : ByteArray) (hs : numsOf s = bs) : TxtAny base w bs (.iface 9 (.string s))
theorem TxtAny.below {base B : Nat} {w w' : World} {bs : List Int} {x : Value} (h : TxtAny base w bs x) (hb : Below B w w') (hB : base ≤ B) : TxtAny base w' bs x := by
 cases h with
 | bytes g c hin hg => exact .bytes g c (hin.below hb (by omega)) hg
 | str s hs => exact .str s hs
@[go_sem] theorem as_s_s1 (v : Value) (w : World) : (Instr.typeAssert (.iface 22 v) 20 22 false).run Tryz.prog w = .ok v w := by kernel_rfl
@[go_sem] theorem as_t_t1 (v : Value) (w : World) : (Instr.typeAssert (.iface 9 v) 20 9 false).run Tryz.prog w = .ok v w := by kernel_rfl
end Go.Proofs.YthocmhkafgpgbaaGreatDoor
namespace Go.Proofs.YthocmhkafgpgbaaGreatDoor
open Go.RowKit
def Ascii (bs : List Int) : Prop := ∀ b ∈ bs, 0 ≤ b ∧ b ≤ 127
theorem Ascii.at {bs : List Int} (h : Ascii bs) (k : Nat) (hk : k < bs.length) : 0 ≤ bs[k] ∧ bs[k] ≤ 127 := h _ (List.getElem_mem hk)
end Go.Proofs.YthocmhkafgpgbaaGreatDoor
namespace Go.Proofs.YthocmhkafgpgbaaGreatDoor
open Go.RowKit
def ReadRow (base : Nat) (w : World) (bs : List Int) (v : Value) : Prop := ∃ g c, v = .slice (some ⟨g, 0, none⟩) bs.length c ∧ base ≤ g ∧ g < w.heap.size ∧ Input w g 0 bs.length c bs
end Go.Proofs.YthocmhkafgpgbaaGreatDoor
namespace Go.Proofs.YthocmhkafgpgbaaGreatDoor
open Go.RowKit
@[go_sem] theorem eqlNone (w : World) (a : Addr) (l c : Nat) : (binOp .eql 22 (.slice (some a) l c) (.slice none 0 0)).run Tryz.prog w = .ok (.bool false) w :=
 Lib.run_eql_slice_nil w 22 5 (some a) l c 0 0 Tryz.underlying22
theorem ReadRow.kept {base : Nat} {w w' : World} {bs : List Int} {v : Value} (h : ReadRow base w bs v) (hk : Keeps (fun _ => False) w w') : ReadRow base w' bs v := by
 obtain ⟨g, c, h1, h2, h3, h4⟩ := h
 exact ⟨g, c, h1, h2, Nat.lt_of_lt_of_le h3 hk.size, h4.kept hk id⟩
end Go.Proofs.YthocmhkafgpgbaaGreatDoor
namespace Go.Proofs.YthocmhkafgpgbaaGreatDoor
open Go.RowKit
set_option maxRecDepth 100000 in
set_option maxHeartbeats 1000000 in
theorem roCoreT (w : World) (tc scale : Int) (k : Nat) (rb ro n c : Nat) (dfv emp : Bool) (bs : List Int) (hin : Input w rb ro n c bs) (hrb : rb < w.heap.size) (hn : n ≤ 20000)
  (hs0 : -10 ≤ scale) (hs1 : scale ≤ 1000) (ht0 : 0 ≤ tc) (ht1 : tc ≤ 255) (R : Value → Nat → World → Prop) (PV : Array Value → Nat → World → Prop)
  (hdec : ∀ (W : World) (base D S : Nat) (tr : Value), TrD tr → rb < base → Below w.heap.size w W → w.heap.size + 3 ≤ base → DecAt W base D S rb ro n c tr dfv emp 0 → Input W rb ro n c bs →
   Calls Tryz.prog 32 #[.int .u8 tc, .int .i64 scale, .pointer (some ⟨D, 0, none⟩)] W fun e w' => ∃ x y, e = .returned (.tuple #[x, y]) ∧ y = .nilIface ∧ R x w'.heap.size w' ∧ DecAt w' base D S rb ro n c tr dfv emp k ∧ Below base W w')
  (hval : ∀ (W : World) (B : Nat) (x : Value), R x B W → B ≤ W.heap.size → w.heap.size + 3 ≤ W.heap.size → Calls Tryz.prog 34 #[x] W fun e w' => ∃ v, e = .returned (.agg v) ∧ v.size = 22 ∧ v.all (·.oneCell') = true ∧ PV v w'.heap.size w' ∧ Below W.heap.size W w')
  (hPV : ∀ (v : Array Value) (B : Nat) (W W' : World), PV v B W → Stays w 3 B W W' → PV v B W') :
  Calls Tryz.prog 10 #[.int .i64 tc, .slice (some ⟨rb, ro, none⟩) n c, .int .i64 scale, .bool dfv, .bool emp] w fun e w' =>
   ∃ v B, e = .returned (.tuple #[.agg v, .int .i64 k, .int .i64 0]) ∧ v.size = 22 ∧ PV v B w' ∧ B ≤ w'.heap.size ∧ Below w.heap.size w w' := by
 have hmf : ∀ (fn : Fn) (first cap : Array Value) (w : World), (Instr.makeFunc fn first cap).run Tryz.prog w = .ok (.func fn first cap) w := fun _ _ _ _ => rfl
 have htc : IntKind.u8.wrap tc = tc := by simp [IntKind.wrap, IntKind.bits, IntKind.signed]; omega
 have hnn : ¬ (20000 : Int) < n := by omega
 have hdec' := Lib.hid hdec; clear hdec
 have hval' := Lib.hid hval; clear hval
 have hPV' := Lib.hid hPV; clear hPV
 go_enter_defers Tryz.func10, Tryz.ntmps10
 go_wp2_with fail
 obtain ⟨q, hb0⟩ := ValBlk.made w noVal (.int .i64 0) (.int .i64 0)
 change Calls _ _ _ (((w.alloc (.cells noVal 52)).alloc (.cells #[.int .i64 0] 3)).alloc (.cells #[.int .i64 0] 3)) _
 generalize (((w.alloc (.cells noVal 52)).alloc (.cells #[.int .i64 0] 3)).alloc (.cells #[.int .i64 0] 3)) = W0 at *
 refine (near_any scale _ hs0 hs1).mono ?_
 rintro e w2 ⟨rfl, rfl⟩
 go_wp2_with fail
 refine (decoder_any _ rb ro n c dfv emp).mono ?_
 rintro e w1 ⟨D, S, tr, rfl, hTr, hD, hb1⟩
 have q1 := q.below hb1 q.lt
 have hq1 := q1.lt
 have hbw1 := hb0.trans (hb1.mono hb0.size)
 have hz0 := hb0.size
 have hlo := hD.lo
 have hsD := sizeOf_blk hD.dec
 have hsS := sizeOf_blk hD.scr.choose_spec.2
 go_wp2_with fail
 refine (hdec'.out w1 W0.heap.size D S tr hTr (by omega) hbw1 (by have := q.lt; omega) hD (hin.below hbw1 hrb)).mono ?_
 rintro e w3 ⟨x, y, rfl, rfl, hR, hD3, hb3⟩
 have q3 := q1.below hb3 q.lt
 have hbw3 := hbw1.trans (hb3.mono hz0)
 go_wp2_with fail
 refine (decError_any _ _ _ _ _ _ _ _ _ _ _ _ hD3).mono ?_
 rintro e w4 ⟨rfl, rfl⟩
 go_wp2_with fail
 refine (hval'.out _ _ x hR (Nat.le_refl _) (by have := q3.lt; omega)).mono ?_
 rintro e w4 ⟨v, rfl, hv22, hv1, hPv, hb4⟩
 have q4 := q3.below hb4 q3.lt
 have hD4 := hD3.keep ⟨hb4.os, hb4.tape, hb4.output, hb4.size, fun k hk _ => hb4.block k hk⟩ id id
 have hbw4 := hbw3.trans (hb4.mono hbw3.size)
 go_wp2_with fail
 refine (decCnt_any _ _ _ _ _ _ _ _ _ _ _ _ hD4).mono ?_
 rintro e w5 ⟨rfl, rfl⟩
 have q5 : ValBlk w (w4.setRow w.heap.size v) v (.int .i64 0) (.int .i64 0) := ⟨setRow_heap _ _ _ _ _ _ q4.r0, (setRow_other _ _ _ _ (by omega)).trans q4.r1, (setRow_other _ _ _ _ (by omega)).trans q4.r2⟩
 obtain ⟨c1, c2, f1, f2⟩ := q5.cells
 go_wp2_with (refine store_val rfl (.tmp 10) (.tmp 47) rfl _ rfl v rfl noVal q4.r0 rfl hv22 hv1 ?_)
 have q6 : ValBlk w (((w4.setRow w.heap.size v).setCell ⟨w.heap.size + 1, 0, none⟩ (.int .i64 k)).setCell ⟨w.heap.size + 1 + 1, 0, none⟩ (.int .i64 0)) v (.int .i64 k) (.int .i64 0) :=
  ⟨(blk_setCell_ne (by simp; omega) _).trans ((blk_setCell_ne (by simp) _).trans q5.r0), (blk_setCell_ne (by simp) _).trans (blk_setCell q5.r1 0 _), blk_setCell ((blk_setCell_ne (by simp) _).trans q5.r2) 0 _⟩
 have s6 : Stays w 3 w4.heap.size w4 (((w4.setRow w.heap.size v).setCell ⟨w.heap.size + 1, 0, none⟩ (.int .i64 k)).setCell ⟨w.heap.size + 1 + 1, 0, none⟩ (.int .i64 0)) :=
  (Stays.trans (⟨by simp, fun k _ hT => setRow_other _ _ _ _ (by omega)⟩ : Stays w 3 w4.heap.size w4 (w4.setRow w.heap.size v)) (.set1 1 (by omega) _)).trans (.set1 2 (by omega) _)
 have b6 : Below w.heap.size w4 (((w4.setRow w.heap.size v).setCell ⟨w.heap.size + 1, 0, none⟩ (.int .i64 k)).setCell ⟨w.heap.size + 1 + 1, 0, none⟩ (.int .i64 0)) :=
  ((below_setRow (Below.refl _ _) (Nat.le_refl _) _).setCell (by simp) _).setCell (by simp; omega) _
 have z6 : w4.heap.size ≤ (((w4.setRow w.heap.size v).setCell ⟨w.heap.size + 1, 0, none⟩ (.int .i64 k)).setCell ⟨w.heap.size + 1 + 1, 0, none⟩ (.int .i64 0)).heap.size := by simp
 clear c1 c2 f1 f2
 generalize (((w4.setRow w.heap.size v).setCell ⟨w.heap.size + 1, 0, none⟩ (.int .i64 k)).setCell ⟨w.heap.size + 1 + 1, 0, none⟩ (.int .i64 0)) = w6 at *
 refine leaves_cons (by simp) rfl ?_
 refine (roIdle _ _ _ w6).mono ?_
 rintro e u w7 ⟨rfl, rfl, rfl⟩
 refine ⟨.tuple #[.agg v, .int .i64 k, .int .i64 0], ?_, v, w4.heap.size, rfl, hv22, hPV'.out _ _ _ _ hPv s6, z6, hbw4.trans b6⟩
 obtain ⟨fs, hu⟩ := valStruct
 have hl := run_loadVar_row (P := Tryz.prog) w6 w.heap.size 52 52 v (0, 0) _ q6.r0 hu rfl (valSize hv22)
 obtain ⟨c1, c2, f1, f2⟩ := q6.cells
 have l1 : (loadVar 3 ⟨w.heap.size + 1, 0, none⟩).run Tryz.prog w6 = .ok (.int .i64 k) w6 := by simp [go_sem, c1]
 have l2 : (loadVar 3 ⟨w.heap.size + 1 + 1, 0, none⟩).run Tryz.prog w6 = .ok (.int .i64 0) w6 := by simp [go_sem, c2]
 simp [results, Tryz.results10, asAddr, hl, l1, l2]
end Go.Proofs.YthocmhkafgpgbaaGreatDoor
