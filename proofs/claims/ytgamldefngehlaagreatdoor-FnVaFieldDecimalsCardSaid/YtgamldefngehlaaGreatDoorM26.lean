/- Parts of the walk. -/
import Derived.Test.YtgamldefngehlaaGreatDoorM01
import Derived.Test.YtgamldefngehlaaGreatDoorM22
import Derived.Test.YtgamldefngehlaaGreatDoorM25
import Derived.Laws.BytesArg
import Derived.Deep.RegionHeld3
import Derived.BigRegion
import Derived.Deep.AppendLies
set_option linter.unusedVariables false
set_option linter.unusedSimpArgs false
namespace Go.Proofs.YtgamldefngehlaaGreatDoor
open Go.RowKit
theorem valSize {cs : Array Value} (h : cs.size = 22) : (Tryz.prog.info? 49).map (·.size) = some cs.size := by rw [h]; kernel_rfl
theorem valStruct : ∃ fs, Tryz.prog.underlying 49 = some (.struct fs) := by
 have h : (Tryz.prog.underlying 49).map (fun d => match d with | .struct _ => true | _ => false) = some true := by kernel_rfl
 cases hd : Tryz.prog.underlying 49 with
 | none => simp [hd] at h
 | some d => cases d <;> simp_all
theorem load_val {ops : Array Oper} {rest : List Oper} {o : Oper} {a : Act} {w : World} {Q : Exit → Act → World → Prop} (hgd : o.guard = none) (x : Operand) (ho : o.op = .load 49 x)
  (g : Nat) (hx : a.eval x = .pointer (some ⟨g, 0, none⟩)) (cs : Array Value) (hg : w.heap[g]? = some (.cells cs 49 (0, 0))) (hcs : cs.size = 22)
  (h : wpList Tryz.prog ops Q rest (a.put o.dst (.agg cs)) w) : wpList Tryz.prog ops Q (o :: rest) a w := by
 obtain ⟨fs, hu⟩ := valStruct
 exact wpList_load_row hgd 49 x ho g hx _ cs _ _ hg hu rfl (valSize hcs) h
theorem store_val {ops : Array Oper} {rest : List Oper} {o : Oper} {a : Act} {w : World} {Q : Exit → Act → World → Prop} (hgd : o.guard = none) (x y : Operand) (ho : o.op = .store 49 x y)
  (g : Nat) (hx : a.eval x = .pointer (some ⟨g, 0, none⟩)) (cs : Array Value) (hy : a.eval y = .agg cs) (old : Array Value) (hg : w.heap[g]? = some (.cells old 49 (0, 0))) (hold : old.size = 22) (hcs : cs.size = 22)
  (h1 : cs.all (·.oneCell') = true) (h : wpList Tryz.prog ops Q rest (a.put o.dst undef) (w.setRow g cs)) : wpList Tryz.prog ops Q (o :: rest) a w := by
 refine wpList_plain hgd fun _ hK => ?_
 unfold Oper.wp execOp
 simp only [ho, hx, hy, Instr.storeAt, Instr.sureAddr, Sem.run_bind, Sem.run_pure, Result.andThen_ok, run_storeVar_row _ _ _ _ _ _ hg (valSize hcs) (by rw [hold, hcs]) h1]
 exact hK _ _ h
theorem store_valW {ops : Array Oper} {rest : List Oper} {o : Oper} {a : Act} {w : World} {Q : Exit → Act → World → Prop} (hgd : o.guard = none) (x y : Operand) (ho : o.op = .store 49 x y)
  (g : Nat) (hx : a.eval x = .pointer (some ⟨g, 0, none⟩)) (cs : Array Value) (hy : a.eval y = .agg cs) (old : Array Value) (hg : w.heap[g]? = some (.cells old 49 (0, 0))) (hold : old.size = 22) (hcs : cs.size = 22)
  (h1 : cs.all (·.oneCell') = true) (W : World) (hW : W = w.setRow g cs) (h : wpList Tryz.prog ops Q rest (a.put o.dst undef) W) : wpList Tryz.prog ops Q (o :: rest) a w :=
 store_val hgd x y ho g hx cs hy old hg hold hcs h1 (hW ▸ h)
structure Stays (w : World) (m B : Nat) (W W' : World) : Prop where
 size : W.heap.size ≤ W'.heap.size
 blk : ∀ k, k < B → (k < w.heap.size ∨ w.heap.size + m ≤ k) → W'.heap[k]? = W.heap[k]?
theorem Stays.of_below {w W W' : World} {m B : Nat} (h : Below B W W') : Stays w m B W W' := ⟨h.size, fun k hk _ => h.block k hk⟩
theorem Stays.trans {w a b c : World} {m B : Nat} (h : Stays w m B a b) (h' : Stays w m B b c) : Stays w m B a c := ⟨Nat.le_trans h.size h'.size, fun k hk hT => (h'.blk k hk hT).trans (h.blk k hk hT)⟩
theorem Stays.set1 {w W : World} {m B : Nat} (i : Nat) (hi : i < m) (v : Value) : Stays w m B W (W.setCell ⟨w.heap.size + i, 0, none⟩ v) := ⟨by simp, fun k _ hT => Below.heap_setCell _ _ _ _ (by simp; omega)⟩
theorem Stays.alloc {w a b : World} {m B : Nat} (h : Stays w m B a b) (hB : B ≤ a.heap.size) (o : Obj) : Stays w m B a (b.alloc o) := ⟨by have := h.size; simp; omega, fun k hk hT => (Below.heap_alloc _ _ _ (by have := h.size; omega)).trans (h.blk k hk hT)⟩
end Go.Proofs.YtgamldefngehlaaGreatDoor
namespace Go.Proofs.YtgamldefngehlaaGreatDoor
open Go.RowKit
theorem fbIdle (p q r : Value) (w : World) : CallsD Tryz.prog 17 #[p, q, r] .returning w fun e u' w' => e = .returned (.tuple #[]) ∧ u' = .returning ∧ w = w' := by
 refine callsD_of_wpS Tryz.func17 rfl fun c₀ cs hu => ?_
 apply wpS_seq
 apply wpS_region
 simp [wpOpsS, go_sem, recoverD, hu, Tryz.ntmps17, Exit.thenS]
 refine wpS_cond (t := false) (by simp [Act.eval, Array.replicate]) ?_
 simp only [Bool.false_eq_true, if_false]
 refine wpS_of_wp (wp_skip ?_)
 cases c₀
 simp_all [bodyPostS, results, Tryz.results17]
def FieldAt (w : World) (F : Nat) (tc prec scale : Int) : Prop := ∃ nm, w.heap[F]? = some (.cells (fieldCells nm tc prec scale) 108 (0, 0))
theorem FieldAt.cells {w : World} {F : Nat} {tc prec scale : Int} (h : FieldAt w F tc prec scale) :
  w.cell? ⟨F, 2, none⟩ = some (.int .i64 prec) ∧ w.cell? ⟨F, 3, none⟩ = some (.int .i64 scale) ∧ w.cell? ⟨F, 5, none⟩ = some (.int .u8 tc) := by
 obtain ⟨nm, h⟩ := h
 refine ⟨?_, ?_, ?_⟩ <;> rw [cellOf h] <;> rfl
theorem FieldAt.below {w w' : World} {F B : Nat} {tc prec scale : Int} (h : FieldAt w F tc prec scale) (hb : Below B w w') (hF : F < B) : FieldAt w' F tc prec scale := by
 obtain ⟨nm, h⟩ := h
 exact ⟨nm, (hb.block _ hF).trans h⟩
def fbWorld (w : World) (cs : Array Value) : World := (((w.alloc (.cells cs 49)).alloc (.cells #[.slice none 0 0] 22)).alloc (.cells #[.int .i64 0] 3)).alloc (.cells #[.int .i64 0] 3)
structure ResBlk (w0 w : World) (t : TypeId) (v a b : Value) : Prop where
 r0 : w.heap[w0.heap.size + 1]? = some (.cells #[v] t (0, 0))
 r1 : w.heap[w0.heap.size + 1 + 1]? = some (.cells #[a] 3 (0, 0))
 r2 : w.heap[w0.heap.size + 1 + 1 + 1]? = some (.cells #[b] 3 (0, 0))
theorem ResBlk.below {w0 w w' : World} {t : TypeId} {v a b : Value} {B : Nat} (h : ResBlk w0 w t v a b) (hb : Below B w w') (hB : w0.heap.size + 1 + 1 + 1 < B) : ResBlk w0 w' t v a b :=
 ⟨(hb.block _ (by omega)).trans h.r0, (hb.block _ (by omega)).trans h.r1, (hb.block _ (by omega)).trans h.r2⟩
theorem fbWorld_size (w : World) (cs : Array Value) : (fbWorld w cs).heap.size = w.heap.size + 1 + 1 + 1 + 1 := by simp [fbWorld]
theorem fbWorld_below (w : World) (cs : Array Value) : Below w.heap.size w (fbWorld w cs) :=
 (((Below.refl w.heap.size w).alloc (Nat.le_refl _) _).alloc (by simp) _).alloc (by simp; omega) _ |>.alloc (by simp; omega) _
theorem fbWorld_res (w : World) (cs : Array Value) : ResBlk w (fbWorld w cs) 22 (.slice none 0 0) (.int .i64 0) (.int .i64 0) :=
 ⟨blk_alloc (blk_alloc (blk_new' _ _ _ (by simp)) _) _, blk_alloc (blk_new' _ _ _ (by simp)) _, blk_new' _ _ _ (by simp)⟩
theorem ResBlk.lt {w0 w : World} {t : TypeId} {v a b : Value} (h : ResBlk w0 w t v a b) : w0.heap.size + 1 + 1 + 1 < w.heap.size := sizeOf_blk h.r2
theorem ResBlk.set1 {w0 w : World} {t : TypeId} {v a b : Value} (h : ResBlk w0 w t v a b) (u : Value) : ResBlk w0 (w.setCell ⟨w0.heap.size + 1 + 1, 0, none⟩ u) t v u b :=
 ⟨(blk_setCell_ne (by simp) _).trans h.r0, blk_setCell h.r1 0 u, (blk_setCell_ne (by simp) _).trans h.r2⟩
theorem ResBlk.alloc {w0 w : World} {t : TypeId} {v a b : Value} (h : ResBlk w0 w t v a b) (o : Obj) : ResBlk w0 (w.alloc o) t v a b := ⟨blk_alloc h.r0 _, blk_alloc h.r1 _, blk_alloc h.r2 _⟩
theorem ResBlk.cells {w0 w : World} {t : TypeId} {v a b : Value} (h : ResBlk w0 w t v a b) :
  w.cell? ⟨w0.heap.size + 1, 0, none⟩ = some v ∧ w.cell? ⟨w0.heap.size + 1 + 1, 0, none⟩ = some a ∧ w.cell? ⟨w0.heap.size + 1 + 1 + 1, 0, none⟩ = some b ∧
  w.frozen? ⟨w0.heap.size + 1, 0, none⟩ = false ∧ w.frozen? ⟨w0.heap.size + 1 + 1, 0, none⟩ = false ∧ w.frozen? ⟨w0.heap.size + 1 + 1 + 1, 0, none⟩ = false :=
 ⟨by rw [cellOf h.r0]; rfl, by rw [cellOf h.r1]; rfl, by rw [cellOf h.r2]; rfl, frozenOf h.r0 0, frozenOf h.r1 0, frozenOf h.r2 0⟩
theorem fieldMade (w1 : World) (tc prec scale : Int) : FieldAt ((w1.alloc (.cells #[.slice none 0 0] 102)).alloc (.cells (fieldCells w1.heap.size tc prec scale) 108)) (w1.heap.size + 1) tc prec scale ∧
  Below w1.heap.size w1 ((w1.alloc (.cells #[.slice none 0 0] 102)).alloc (.cells (fieldCells w1.heap.size tc prec scale) 108)) :=
 ⟨⟨_, blk_new' _ _ _ (by simp)⟩, ((Below.refl w1.heap.size w1).alloc (Nat.le_refl _) _).alloc (by simp) _⟩
end Go.Proofs.YtgamldefngehlaaGreatDoor
namespace Go.Proofs.YtgamldefngehlaaGreatDoor
open Go.RowKit
theorem decError_any (w : World) (base D S rb ro n c : Nat) (tr : Value) (dfv emp : Bool) (k : Nat) (h : DecAt w base D S rb ro n c tr dfv emp k) :
  Calls Tryz.prog 29 #[.pointer (some ⟨D, 0, none⟩)] w fun e w' => e = .returned .nilIface ∧ w = w' := by
 obtain ⟨c2, c3, c4, c5, c6⟩ := h.cells
 go_enter Tryz.func29, Tryz.ntmps29
 go_wp2
 go_ret
 exact ⟨rfl, rfl⟩
theorem decCnt_any (w : World) (base D S rb ro n c : Nat) (tr : Value) (dfv emp : Bool) (k : Nat) (h : DecAt w base D S rb ro n c tr dfv emp k) :
  Calls Tryz.prog 31 #[.pointer (some ⟨D, 0, none⟩)] w fun e w' => e = .returned (.int .i64 k) ∧ w = w' := by
 obtain ⟨c2, c3, c4, c5, c6⟩ := h.cells
 go_enter Tryz.func31, Tryz.ntmps31
 go_wp2
 go_ret
 exact ⟨rfl, rfl⟩
theorem and128 : ∀ n : Fin 256, bits .and .u8 (n.val : Int) 128 = if n.val < 128 then 0 else 128 := by decide +kernel
theorem and128_lo {x : Int} (h1 : 0 ≤ x) (h2 : x < 128) : bits .and .u8 x 128 = 0 := by
 have := and128 ⟨x.toNat, by omega⟩
 rw [if_pos (by show x.toNat < 128; omega)] at this
 rwa [show ((⟨x.toNat, by omega⟩ : Fin 256).val : Int) = x by show ((x.toNat : Nat) : Int) = x; omega] at this
theorem FieldAt.keeps {w w' : World} {F : Nat} {tc prec scale : Int} {T : Nat → Prop} (h : FieldAt w F tc prec scale) (hb : Keeps T w w') (hF : ¬ T F) : FieldAt w' F tc prec scale := by
 obtain ⟨nm, h⟩ := h
 exact ⟨nm, hb.at_ h hF⟩
theorem zzFieldOf_any (w : World) (p q : Value) (Q : Value → Value → World → Prop)
  (h : Calls Tryz.prog 50 #[p, q] w fun e w' => ∃ x y, e = .returned (.tuple #[x, y]) ∧ Q x y w') :
  Calls Tryz.prog 28 #[p, q] w fun e w' => ∃ x y, e = .returned (.tuple #[x, y]) ∧ Q x y w' := by
 have h' := Lib.hid h; clear h
 go_enter Tryz.func28, Tryz.ntmps28
 go_wp2_with fail
 refine h'.out.mono ?_
 rintro e w' ⟨x, y, rfl, hQ⟩
 go_wp2_with fail
 go_ret2
 exact ⟨x, y, rfl, hQ⟩
theorem decPrm (w : World) (base D S rb ro n c : Nat) (tr : Value) (dfv emp : Bool) (bs : List Int) (x : Int) (hx : bs[0]? = some x) (hx1 : 0 ≤ x) (hx2 : x < 128) (F : Nat) (tc prec scale : Int)
  (h : DecAt w base D S rb ro n c tr dfv emp 0) (hin : Input w rb ro n c bs) (hF : FieldAt w F tc prec scale) (hFD : F ≠ D) (hFS : F ≠ S) (hrb : rb < base) (Q : Value → Value → World → Prop)
  (hdec : ∀ W, DecAt W base D S rb ro n c tr dfv emp 1 → Input W rb ro n c bs → Below base w W → Calls Tryz.prog 96 #[.int .u8 tc, .pointer (some ⟨D, 0, none⟩), .int .i64 scale] W fun e w' => ∃ x y, e = .returned (.tuple #[x, y]) ∧ Q x y w') :
  Calls Tryz.prog 50 #[.pointer (some ⟨F, 0, none⟩), .pointer (some ⟨D, 0, none⟩)] w fun e w' =>
   ∃ x y, e = .returned (.tuple #[x, y]) ∧ Q x y w' := by
 have hn := hin.len
 have hl : 0 < bs.length := (List.getElem?_eq_some_iff.1 hx).1
 have hx' : bs[0] = x := (List.getElem?_eq_some_iff.1 hx).2
 have hdec' := Lib.hid hdec; clear hdec
 go_enter Tryz.func50, Tryz.ntmps50
 go_wp2_with fail
 refine (decByte_any w base D S rb ro n c tr dfv emp 0 bs h hin (by omega)).mono ?_
 rintro e w1 ⟨rfl, hd1, hk1, hb1⟩
 rw [hx']
 have hand := and128_lo hx1 hx2
 obtain ⟨_, cs, ct⟩ := (hF.keeps hk1 (by simp [hFD, hFS])).cells
 go_wp2_with fail
 have hbd : Below base w w1.drew := hb1.trans ⟨rfl, rfl, rfl, Nat.le_refl _, fun _ _ => rfl⟩
 have hc := Lib.hid (hdec'.out w1.drew (hd1.keep (Keeps.refl (fun _ => False) _).drew id id) (hin.below hbd hrb) hbd)
 clear hdec'
 go_region_with (refine hc.out.mono ?_; rintro e w' ⟨x1, y1, rfl, hQ⟩)
 all_goals go_wp2_with fail
 all_goals go_ret2
 all_goals exact ⟨_, _, rfl, hQ⟩
end Go.Proofs.YtgamldefngehlaaGreatDoor
namespace Go.Proofs.YtgamldefngehlaaGreatDoor
open Go.RowKit
theorem Below.keeps {w w' : World} (h : Below w.heap.size w w') : Keeps (fun _ => False) w w' := ⟨h.os, h.tape, h.output, h.size, fun k hk _ => h.block k hk⟩
end Go.Proofs.YtgamldefngehlaaGreatDoor
namespace Go.Proofs.YtgamldefngehlaaGreatDoor
open Go.RowKit
theorem foIdle (p q r : Value) (w : World) : CallsD Tryz.prog 26 #[p, q, r] .returning w fun e u' w' => e = .returned (.tuple #[]) ∧ u' = .returning ∧ w = w' := by
 refine callsD_of_wpS Tryz.func26 rfl fun c₀ cs hu => ?_
 apply wpS_seq
 apply wpS_region
 simp [wpOpsS, go_sem, recoverD, hu, Tryz.ntmps26, Exit.thenS]
 refine wpS_cond (t := false) (by simp [Act.eval, Array.replicate]) ?_
 simp only [Bool.false_eq_true, if_false]
 refine wpS_of_wp (wp_skip ?_)
 cases c₀
 simp_all [bodyPostS, results, Tryz.results26]
def noVal : Array Value := valCells 0 false 0 0 (.slice none 0 0) ⟨#[]⟩ false (.slice none 0 0) (.slice none 0 0)
structure ValBlk (w0 w : World) (v : Array Value) (a b : Value) : Prop where
 r0 : w.heap[w0.heap.size]? = some (.cells v 49 (0, 0))
 r1 : w.heap[w0.heap.size + 1]? = some (.cells #[a] 3 (0, 0))
 r2 : w.heap[w0.heap.size + 1 + 1]? = some (.cells #[b] 3 (0, 0))
theorem ValBlk.lt {w0 w : World} {v : Array Value} {a b : Value} (h : ValBlk w0 w v a b) : w0.heap.size + 1 + 1 < w.heap.size := sizeOf_blk h.r2
theorem ValBlk.below {w0 w w' : World} {v : Array Value} {a b : Value} {B : Nat} (h : ValBlk w0 w v a b) (hb : Below B w w') (hB : w0.heap.size + 1 + 1 < B) : ValBlk w0 w' v a b :=
 ⟨(hb.block _ (by omega)).trans h.r0, (hb.block _ (by omega)).trans h.r1, (hb.block _ (by omega)).trans h.r2⟩
theorem ValBlk.cells {w0 w : World} {v : Array Value} {a b : Value} (h : ValBlk w0 w v a b) :
  w.cell? ⟨w0.heap.size + 1, 0, none⟩ = some a ∧ w.cell? ⟨w0.heap.size + 1 + 1, 0, none⟩ = some b ∧
  w.frozen? ⟨w0.heap.size + 1, 0, none⟩ = false ∧ w.frozen? ⟨w0.heap.size + 1 + 1, 0, none⟩ = false :=
 ⟨by rw [cellOf h.r1]; rfl, by rw [cellOf h.r2]; rfl, frozenOf h.r1 0, frozenOf h.r2 0⟩
theorem ValBlk.made (w : World) (v : Array Value) (a b : Value) : ValBlk w (((w.alloc (.cells v 49)).alloc (.cells #[a] 3)).alloc (.cells #[b] 3)) v a b ∧
  Below w.heap.size w (((w.alloc (.cells v 49)).alloc (.cells #[a] 3)).alloc (.cells #[b] 3)) :=
 ⟨⟨blk_alloc (blk_alloc (blk_new _ _) _) _, blk_alloc (blk_new' _ _ _ (by simp)) _, blk_new' _ _ _ (by simp)⟩, (((Below.refl w.heap.size w).alloc (Nat.le_refl _) _).alloc (by simp) _).alloc (by simp; omega) _⟩
end Go.Proofs.YtgamldefngehlaaGreatDoor
namespace Go.Proofs.YtgamldefngehlaaGreatDoor
open Go.RowKit
theorem roIdle (p q r : Value) (w : World) : CallsD Tryz.prog 34 #[p, q, r] .returning w fun e u' w' => e = .returned (.tuple #[]) ∧ u' = .returning ∧ w = w' := by
 refine callsD_of_wpS Tryz.func34 rfl fun c₀ cs hu => ?_
 apply wpS_seq
 apply wpS_region
 simp [wpOpsS, go_sem, recoverD, hu, Tryz.ntmps34, Exit.thenS]
 refine wpS_cond (t := false) (by simp [Act.eval, Array.replicate]) ?_
 simp only [Bool.false_eq_true, if_false]
 refine wpS_of_wp (wp_skip ?_)
 cases c₀
 simp_all [bodyPostS, results, Tryz.results34]
theorem zzResultOf_any (w : World) (tc scale D : Value) (Q : Value → Value → World → Prop)
  (h : Calls Tryz.prog 56 #[tc, D, .nilIface, .int .i64 0, scale] w fun e w' => ∃ x y, e = .returned (.tuple #[x, y]) ∧ Q x y w') :
  Calls Tryz.prog 35 #[tc, scale, D] w fun e w' => ∃ x y, e = .returned (.tuple #[x, y]) ∧ Q x y w' := by
 have h' := Lib.hid h; clear h
 go_enter Tryz.func35, Tryz.ntmps35
 go_wp2_with fail
 refine h'.out.mono ?_
 rintro e w' ⟨x, y, rfl, hQ⟩
 go_wp2_with fail
 go_ret2
 exact ⟨x, y, rfl, hQ⟩
end Go.Proofs.YtgamldefngehlaaGreatDoor
namespace Go.Proofs.YtgamldefngehlaaGreatDoor
open Go.RowKit
theorem results_val (w : World) (b : Nat) (v : Array Value) (hv : v.size = 22) (hb : w.heap[b]? = some (.cells v 49 (0, 0))) (tmps : Array Value) (h2 : tmps.getD 2 undef = .pointer (some ⟨b, 0, none⟩)) :
  (results Tryz.f30 tmps).run Tryz.prog w = .ok (.agg v) w := by
 obtain ⟨fs, hu⟩ := valStruct
 exact results_cell_row Tryz.results30 tmps w b 49 v (0, 0) _ h2 hb hu rfl (valSize hv)
@[go_sem] theorem as_b_b (v : Value) (w : World) : (Instr.typeAssert (.iface 4 v) 20 4 true).run Tryz.prog w = .ok (.tuple #[v, .bool true]) w := by kernel_rfl
@[go_sem] theorem as_i_b (v : Value) (w : World) : (Instr.typeAssert (.iface 2 v) 20 4 true).run Tryz.prog w = .ok (.tuple #[.bool false, .bool false]) w := by kernel_rfl
@[go_sem] theorem as_i_i (v : Value) (w : World) : (Instr.typeAssert (.iface 2 v) 20 2 true).run Tryz.prog w = .ok (.tuple #[v, .bool true]) w := by kernel_rfl
@[go_sem] theorem as_f_b (v : Value) (w : World) : (Instr.typeAssert (.iface 42 v) 20 4 true).run Tryz.prog w = .ok (.tuple #[.bool false, .bool false]) w := by kernel_rfl
@[go_sem] theorem as_f_i (v : Value) (w : World) : (Instr.typeAssert (.iface 42 v) 20 2 true).run Tryz.prog w = .ok (.tuple #[.int .i64 0, .bool false]) w := by kernel_rfl
@[go_sem] theorem as_f_f (v : Value) (w : World) : (Instr.typeAssert (.iface 42 v) 20 42 true).run Tryz.prog w = .ok (.tuple #[v, .bool true]) w := by kernel_rfl
@[go_sem] theorem as_s_b (v : Value) (w : World) : (Instr.typeAssert (.iface 22 v) 20 4 true).run Tryz.prog w = .ok (.tuple #[.bool false, .bool false]) w := by kernel_rfl
@[go_sem] theorem as_s_i (v : Value) (w : World) : (Instr.typeAssert (.iface 22 v) 20 2 true).run Tryz.prog w = .ok (.tuple #[.int .i64 0, .bool false]) w := by kernel_rfl
@[go_sem] theorem as_s_f (v : Value) (w : World) : (Instr.typeAssert (.iface 22 v) 20 42 true).run Tryz.prog w = .ok (.tuple #[.float .f64 0, .bool false]) w := by kernel_rfl
@[go_sem] theorem as_s_s (v : Value) (w : World) : (Instr.typeAssert (.iface 22 v) 20 22 true).run Tryz.prog w = .ok (.tuple #[v, .bool true]) w := by kernel_rfl
@[go_sem] theorem as_t_b (v : Value) (w : World) : (Instr.typeAssert (.iface 9 v) 20 4 true).run Tryz.prog w = .ok (.tuple #[.bool false, .bool false]) w := by kernel_rfl
@[go_sem] theorem as_t_i (v : Value) (w : World) : (Instr.typeAssert (.iface 9 v) 20 2 true).run Tryz.prog w = .ok (.tuple #[.int .i64 0, .bool false]) w := by kernel_rfl
@[go_sem] theorem as_t_f (v : Value) (w : World) : (Instr.typeAssert (.iface 9 v) 20 42 true).run Tryz.prog w = .ok (.tuple #[.float .f64 0, .bool false]) w := by kernel_rfl
@[go_sem] theorem as_t_s (v : Value) (w : World) : (Instr.typeAssert (.iface 9 v) 20 22 true).run Tryz.prog w = .ok (.tuple #[.slice none 0 0, .bool false]) w := by kernel_rfl
@[go_sem] theorem as_t_t (v : Value) (w : World) : (Instr.typeAssert (.iface 9 v) 20 9 true).run Tryz.prog w = .ok (.tuple #[v, .bool true]) w := by kernel_rfl
end Go.Proofs.YtgamldefngehlaaGreatDoor
namespace Go.Proofs.YtgamldefngehlaaGreatDoor
open Go.RowKit
@[go_sem] theorem as_b_b1 (v : Value) (w : World) : (Instr.typeAssert (.iface 4 v) 20 4 false).run Tryz.prog w = .ok v w := by kernel_rfl
theorem zzFieldBytes_any (w : World) (p q x : Value) (Q : World → Prop)
  (h : Calls Tryz.prog 43 #[p, q, x] w fun e w' => e = .returned .nilIface ∧ Q w') :
  Calls Tryz.prog 22 #[p, q, x] w fun e w' => e = .returned .nilIface ∧ Q w' := by
 have h' := Lib.hid h; clear h
 go_enter Tryz.func22, Tryz.ntmps22
 go_wp2_with fail
 refine h'.out.mono ?_
 rintro e w' ⟨rfl, hQ⟩
 go_wp2_with fail
 go_ret
 exact ⟨rfl, hQ⟩
end Go.Proofs.YtgamldefngehlaaGreatDoor
namespace Go.Proofs.YtgamldefngehlaaGreatDoor
open Go.RowKit
@[go_sem] theorem as_i_i1 (v : Value) (w : World) : (Instr.typeAssert (.iface 2 v) 20 2 false).run Tryz.prog w = .ok v w := by kernel_rfl
end Go.Proofs.YtgamldefngehlaaGreatDoor
namespace Go.Proofs.YtgamldefngehlaaGreatDoor
open Go.RowKit
theorem Input.of_row {w : World} {base n : Nat} {v : Value} {bs : List Int} (h : w.ownsRow base 5 1 v n (u8s bs)) (hn : 0 < n) :
  ∃ g c, v = .slice (some ⟨g, 0, none⟩) n c ∧ base ≤ g ∧ g < w.heap.size ∧ Input w g 0 n c bs := by
 obtain ⟨hl, h | ⟨g, cap, cur, hv, hg, hb, hn', hc, hs, ht⟩⟩ := h
 ·omega
 ·have hlen : bs.length = n := by simpa using hl
  refine ⟨g, cap, hv, hg, sizeOf_blk hb, hlen, hn', hc, fun j hj => ?_⟩
  have h1 : (cur.toList.take (n * 1))[j]? = some (.int .u8 bs[j]) := by rw [ht]; simp [u8s, List.getElem?_eq_getElem hj]
  rw [cellOf hb]
  rw [List.getElem?_take] at h1
  split at h1
  ·simpa using h1
  ·simp at h1
end Go.Proofs.YtgamldefngehlaaGreatDoor
namespace Go.Proofs.YtgamldefngehlaaGreatDoor
open Go.RowKit
set_option maxRecDepth 100000 in
set_option maxHeartbeats 1000000 in
theorem fbCoreT (w : World) (tc prec scale sz : Int) (cs : Array Value) (hcs : cs.size = 22) (ys : List Int) (R : Value → Nat → World → Prop)
  (hp0 : -10 ≤ prec) (hp1 : prec ≤ 1000) (hs0 : -10 ≤ scale) (hs1 : scale ≤ 1000) (ht0 : 0 ≤ tc) (ht1 : tc ≤ 255)
  (hany : ∀ W : World, Below w.heap.size w W → w.heap.size + 4 ≤ W.heap.size → Calls Tryz.prog 18 #[.agg cs] W fun e w' => ∃ x, e = .returned (.tuple #[x, .bool true]) ∧ R x w'.heap.size w' ∧ Below W.heap.size W w')
  (hR : ∀ (x : Value) (B : Nat) (W W' : World), R x B W → Stays w 4 B W W' → R x B W')
  (hsize : ∀ (W : World) (x : Value) (B F : Nat), FieldAt W F tc prec scale → R x B W → Calls Tryz.prog 21 #[.pointer (some ⟨F, 0, none⟩), x] W fun e w' => e = .returned (.int .i64 sz) ∧ Below W.heap.size W w')
  (hprm : ∀ (W : World) (x : Value) (base B E S Wr F : Nat) (tr : Value), TrE tr → FieldAt W F tc prec scale → F < base → B ≤ base → R x B W → EncAt W base E S Wr tr [] →
   Calls Tryz.prog 22 #[.pointer (some ⟨F, 0, none⟩), .pointer (some ⟨E, 0, none⟩), x] W fun e w' => e = .returned .nilIface ∧ EncAt w' base E S Wr tr ys ∧ Below base W w') :
  Calls Tryz.prog 7 #[.int .i64 tc, .agg cs, .int .i64 prec, .int .i64 scale] w fun e w' =>
   ∃ v, e = .returned (.tuple #[v, .int .i64 sz, .int .i64 0]) ∧ w'.ownsRow w.heap.size 5 1 v ys.length (u8s ys) ∧ Below w.heap.size w w' := by
 have hmf : ∀ (fn : Fn) (first cap : Array Value) (w : World), (Instr.makeFunc fn first cap).run Tryz.prog w = .ok (.func fn first cap) w := fun _ _ _ _ => rfl
 have htc : IntKind.u8.wrap tc = tc := by simp [IntKind.wrap, IntKind.bits, IntKind.signed]; omega
 have hany' := Lib.hid hany; clear hany
 have hR' := Lib.hid hR; clear hR
 have hsize' := Lib.hid hsize; clear hsize
 have hprm' := Lib.hid hprm; clear hprm
 have hblk : (fbWorld w cs).heap[w.heap.size]? = some (.cells cs 49 (0, 0)) := blk_alloc (blk_alloc (blk_alloc (blk_new _ _) _) _) _
 unfold fbWorld at hblk
 go_enter_defers Tryz.func7, Tryz.ntmps7
 go_wp2_with (refine load_val rfl (.tmp 5) rfl _ rfl cs hblk hcs ?_)
 clear hblk
 have hb0 := fbWorld_below w cs
 have q := fbWorld_res w cs
 have hz0 : w.heap.size + 4 ≤ (fbWorld w cs).heap.size := by rw [fbWorld_size]; omega
 generalize hW : (((w.alloc (Obj.cells cs 49)).alloc (Obj.cells #[Value.slice none 0 0] 22)).alloc (Obj.cells #[Value.int IntKind.i64 0] 3)).alloc (Obj.cells #[Value.int IntKind.i64 0] 3) = W0
 have hW' : fbWorld w cs = W0 := hW
 rw [hW'] at hb0 q hz0
 clear hW hW'
 refine (hany'.out W0 hb0 hz0).mono ?_
 rintro e w1 ⟨x, rfl, hR1, hb1⟩
 have p1 := q.below hb1 q.lt
 have hs1' := p1.lt
 have hbw1 : Below w.heap.size w w1 := hb0.trans (hb1.mono hb0.size)
 clear q hb0 hb1
 go_wp2_with fail
 refine (near_any prec _ hp0 hp1).mono ?_
 rintro e w2 ⟨rfl, rfl⟩
 go_wp2_with fail
 refine (near_any scale _ hs0 hs1).mono ?_
 rintro e w2 ⟨rfl, rfl⟩
 go_wp2_with fail
 refine (field_any tc prec scale _).mono ?_
 rintro e w2 ⟨rfl, rfl⟩
 obtain ⟨hF, hbF⟩ := fieldMade w1 tc prec scale
 have hR2 := hR'.out _ _ _ _ hR1 (.of_below hbF)
 go_wp2_with fail
 refine (hsize'.out _ _ _ _ hF hR2).mono ?_
 rintro e w2 ⟨rfl, hb2⟩
 have hB1 : Below w1.heap.size w1 w2 := hbF.trans (hb2.mono hbF.size)
 have hF2 := hF.below hb2 (by simp)
 have hs2 := sizeOf_blk hF2.choose_spec
 have hR3 := hR'.out _ _ _ _ hR1 (.of_below hB1)
 have p2 := p1.below hB1 hs1'
 clear hF hbF hR2
 obtain ⟨c0, c1, c2, f0, f1, f2⟩ := p2.cells
 go_wp2_with fail
 have p3 := (p2.set1 (.int .i64 sz)).alloc (.cells #[.slice none 0 0] 67)
 have hbw3 : Below w.heap.size w ((w2.setCell ⟨w.heap.size + 1 + 1, 0, none⟩ (.int .i64 sz)).alloc (.cells #[.slice none 0 0] 67)) :=
  ((hbw1.trans (hB1.mono hbw1.size)).setCell (by simp; omega) _).alloc (by have := hbw1.size; have := hB1.size; simp; omega) _
 have hR4 : R x w1.heap.size ((w2.setCell ⟨w.heap.size + 1 + 1, 0, none⟩ (.int .i64 sz)).alloc (.cells #[.slice none 0 0] 67)) :=
  hR'.out _ _ _ _ hR3 ((Stays.set1 2 (by omega) (.int .i64 sz)).alloc hB1.size _)
 have hF3 : FieldAt ((w2.setCell ⟨w.heap.size + 1 + 1, 0, none⟩ (.int .i64 sz)).alloc (.cells #[.slice none 0 0] 67)) (w1.heap.size + 1) tc prec scale := by
  obtain ⟨nm, h⟩ := hF2
  exact ⟨nm, blk_alloc ((blk_setCell_ne (by simp; omega) _).trans h) _⟩
 have hW : ((w2.setCell ⟨w.heap.size + 1 + 1, 0, none⟩ (.int .i64 sz)).alloc (.cells #[.slice none 0 0] 67)).heap[w2.heap.size]? = some (.cells #[.slice none 0 0] 67 (0, 0)) := blk_new' _ _ _ (by simp)
 have hsz3 : ((w2.setCell ⟨w.heap.size + 1 + 1, 0, none⟩ (.int .i64 sz)).alloc (.cells #[.slice none 0 0] 67)).heap.size = w2.heap.size + 1 := by simp
 generalize ((w2.setCell ⟨w.heap.size + 1 + 1, 0, none⟩ (.int .i64 sz)).alloc (.cells #[.slice none 0 0] 67)) = w3 at *
 clear c0 c1 c2 f0 f1 f2 hR3 hF2
 refine (encoder_any w3 w2.heap.size w2.heap.size hW (Nat.le_refl _)).mono ?_
 rintro e w4 ⟨E, S, tr, rfl, hTr, hE, hb4⟩
 have hR5 := hR'.out _ _ _ _ hR4 (.of_below (hb4.mono (by have := hB1.size; omega)))
 have hF4 := hF3.below hb4 (by omega)
 have p4 := p3.below hb4 (by omega)
 go_wp2_with fail
 refine (hprm'.out w4 x w2.heap.size w1.heap.size E S w2.heap.size (w1.heap.size + 1) tr hTr hF4 hs2 (by omega) hR5 hE).mono ?_
 rintro e w5 ⟨rfl, hE5, hb5⟩
 have p5 := p4.below hb5 (by omega)
 have hbw5 : Below w.heap.size w w5 := (hbw3.trans (hb4.mono hbw3.size)).trans (hb5.mono (by have := hbw1.size; have := hB1.size; omega))
 obtain ⟨v, ⟨hv, ho⟩, hS⟩ := hE5.wr
 obtain ⟨A, c, rfl⟩ := ownsRow_slice ho
 have cW : w5.cell? ⟨w2.heap.size, 0, none⟩ = some (.slice A ys.length c) := by rw [cellOf hv]; rfl
 obtain ⟨c0, c1, c2, f0, f1, f2⟩ := p5.cells
 go_wp2_with fail
 go_region
 all_goals go_wp2_with fail
 have p6 : ResBlk w ((((w5.setCell ⟨w.heap.size + 1, 0, none⟩ (.slice A ys.length c)).setCell ⟨w.heap.size + 1 + 1, 0, none⟩ (.int .i64 sz)).setCell ⟨w.heap.size + 1 + 1 + 1, 0, none⟩ (.int .i64 0)).drew) 22 (.slice A ys.length c) (.int .i64 sz) (.int .i64 0) :=
  ⟨(blk_setCell_ne (by simp; try omega) _).trans ((blk_setCell_ne (by simp; try omega) _).trans (blk_setCell p5.r0 0 _)), (blk_setCell_ne (by simp) _).trans (blk_setCell ((blk_setCell_ne (by simp) _).trans p5.r1) 0 _),
   blk_setCell ((blk_setCell_ne (by simp; try omega) _).trans ((blk_setCell_ne (by simp; try omega) _).trans p5.r2)) 0 _⟩
 have k6 : Keeps (fun k => k ≤ w.heap.size + 3 ∧ w.heap.size ≤ k) w5 ((((w5.setCell ⟨w.heap.size + 1, 0, none⟩ (.slice A ys.length c)).setCell ⟨w.heap.size + 1 + 1, 0, none⟩ (.int .i64 sz)).setCell ⟨w.heap.size + 1 + 1 + 1, 0, none⟩ (.int .i64 0)).drew) :=
  (((((Keeps.refl _ w5).setCell _ _ (fun _ => ⟨by show _ + _ ≤ _; omega, by show _ ≤ _ + _; omega⟩)).setCell _ _ (fun _ => ⟨by show _ + _ ≤ _; omega, by show _ ≤ _ + _; omega⟩)).setCell _ _ (fun _ => ⟨by show _ + _ ≤ _; omega, by show _ ≤ _ + _; omega⟩)).drew)
 clear c0 c1 c2 f0 f1 f2
 generalize ((((w5.setCell ⟨w.heap.size + 1, 0, none⟩ (.slice A ys.length c)).setCell ⟨w.heap.size + 1 + 1, 0, none⟩ (.int .i64 sz)).setCell ⟨w.heap.size + 1 + 1 + 1, 0, none⟩ (.int .i64 0)).drew) = w6 at *
 refine leaves_cons (by simp) rfl ?_
 refine (fbIdle _ _ _ w6).mono ?_
 rintro e u w7 ⟨rfl, rfl, rfl⟩
 obtain ⟨c0, c1, c2, f0, f1, f2⟩ := p6.cells
 refine ⟨.tuple #[.slice A ys.length c, .int .i64 sz, .int .i64 0], ?_, _, rfl, ?_, hbw5.trans (k6.below hbw5.size (by intro k hk; omega))⟩
 ·simp [results, Tryz.results7, go_sem, c0, c1, c2]
 ·have := k6.ownsRow ho (fun k hk hT => by have := ownBlock_ge ho k hk.symm; have := hB1.size; omega)
  exact ⟨this.1, this.2.imp id fun ⟨g, cap, cur, a, b, r⟩ => ⟨g, cap, cur, a, by have := hB1.size; omega, r⟩⟩
end Go.Proofs.YtgamldefngehlaaGreatDoor
namespace Go.Proofs.YtgamldefngehlaaGreatDoor
open Go.RowKit
set_option maxRecDepth 100000 in
set_option maxHeartbeats 1000000 in
theorem foCoreD (w : World) (tc scale : Int) (k : Nat) (rb ro n c : Nat) (dfv emp : Bool) (bs : List Int) (hin : Input w rb ro n c bs) (hrb : rb < w.heap.size) (hn : n ≤ 20000)
  (hs0 : -10 ≤ scale) (hs1 : scale ≤ 1000) (ht0 : 0 ≤ tc) (ht1 : tc ≤ 255) (R : Value → Nat → World → Prop) (PV : Array Value → Nat → World → Prop)
  (hdec : ∀ (W : World) (base D S F : Nat) (tr : Value), TrD tr → FieldAt W F tc 0 scale → F ≠ D → F ≠ S → rb < base → Below w.heap.size w W → w.heap.size + 3 ≤ base → DecAt W base D S rb ro n c tr dfv emp 0 → Input W rb ro n c bs →
   Calls Tryz.prog 28 #[.pointer (some ⟨F, 0, none⟩), .pointer (some ⟨D, 0, none⟩)] W fun e w' => ∃ x y, e = .returned (.tuple #[x, y]) ∧ y = .nilIface ∧ R x w'.heap.size w' ∧ DecAt w' base D S rb ro n c tr dfv emp k ∧ Below base W w')
  (hval : ∀ (W : World) (B : Nat) (x : Value), R x B W → B ≤ W.heap.size → w.heap.size + 3 ≤ W.heap.size → Calls Tryz.prog 30 #[x] W fun e w' => ∃ v, e = .returned (.agg v) ∧ v.size = 22 ∧ v.all (·.oneCell') = true ∧ PV v w'.heap.size w' ∧ Below W.heap.size W w')
  (hPV : ∀ (v : Array Value) (B : Nat) (W W' : World), PV v B W → Stays w 3 B W W' → PV v B W') :
  Calls Tryz.prog 9 #[.int .i64 tc, .slice (some ⟨rb, ro, none⟩) n c, .int .i64 scale, .bool dfv, .bool emp] w fun e w' =>
   ∃ v B, e = .returned (.tuple #[.agg v, .int .i64 k, .int .i64 0]) ∧ v.size = 22 ∧ PV v B w' ∧ B ≤ w'.heap.size ∧ Below w.heap.size w w' := by
 have hmf : ∀ (fn : Fn) (first cap : Array Value) (w : World), (Instr.makeFunc fn first cap).run Tryz.prog w = .ok (.func fn first cap) w := fun _ _ _ _ => rfl
 have htc : IntKind.u8.wrap tc = tc := by simp [IntKind.wrap, IntKind.bits, IntKind.signed]; omega
 have hnn : ¬ (20000 : Int) < n := by omega
 have hdec' := Lib.hid hdec; clear hdec
 have hval' := Lib.hid hval; clear hval
 have hPV' := Lib.hid hPV; clear hPV
 go_enter_defers Tryz.func9, Tryz.ntmps9
 go_wp2_with fail
 obtain ⟨q, hb0⟩ := ValBlk.made w noVal (.int .i64 0) (.int .i64 0)
 change Calls _ _ _ (((w.alloc (.cells noVal 49)).alloc (.cells #[.int .i64 0] 3)).alloc (.cells #[.int .i64 0] 3)) _
 generalize (((w.alloc (.cells noVal 49)).alloc (.cells #[.int .i64 0] 3)).alloc (.cells #[.int .i64 0] 3)) = W0 at *
 refine (near_any scale _ hs0 hs1).mono ?_
 rintro e w2 ⟨rfl, rfl⟩
 go_wp2_with fail
 refine (decoder_any _ rb ro n c dfv emp).mono ?_
 rintro e w1 ⟨D, S, tr, rfl, hTr, hD, hb1⟩
 have q1 := q.below hb1 q.lt
 have hq1 := q1.lt
 have hbw1 := hb0.trans (hb1.mono hb0.size)
 have hz0 := hb0.size
 have hlo := hD.lo
 have hsD := sizeOf_blk hD.dec
 have hsS := sizeOf_blk hD.scr.choose_spec.2
 go_wp2_with fail
 refine (field_any tc 0 scale _).mono ?_
 rintro e w2 ⟨rfl, rfl⟩
 obtain ⟨hF, hbF⟩ := fieldMade w1 tc 0 scale
 have q2 := q1.below hbF hq1
 have hD2 := hD.keep ⟨hbF.os, hbF.tape, hbF.output, hbF.size, fun k hk _ => hbF.block k hk⟩ id id
 have hbw2 := hbw1.trans (hbF.mono hbw1.size)
 generalize ((w1.alloc (.cells #[.slice none 0 0] 102)).alloc (.cells (fieldCells w1.heap.size tc 0 scale) 108)) = w2 at *
 clear hD
 go_wp2_with fail
 refine (hdec'.out w2 W0.heap.size D S (w1.heap.size + 1) tr hTr hF (by omega) (by omega) (by omega) hbw2 (by have := q.lt; omega) hD2 (hin.below hbw2 hrb)).mono ?_
 rintro e w3 ⟨x, y, rfl, rfl, hR, hD3, hb3⟩
 have q3 := q2.below hb3 q.lt
 have hbw3 := hbw2.trans (hb3.mono hz0)
 clear hF hbF hb1
 go_wp2_with fail
 refine (decError_any _ _ _ _ _ _ _ _ _ _ _ _ hD3).mono ?_
 rintro e w4 ⟨rfl, rfl⟩
 go_wp2_with fail
 refine (hval'.out _ _ x hR (Nat.le_refl _) (by have := q3.lt; omega)).mono ?_
 rintro e w4 ⟨v, rfl, hv22, hv1, hPv, hb4⟩
 have q4 := q3.below hb4 q3.lt
 have hD4 := hD3.keep ⟨hb4.os, hb4.tape, hb4.output, hb4.size, fun k hk _ => hb4.block k hk⟩ id id
 have hbw4 := hbw3.trans (hb4.mono hbw3.size)
 go_wp2_with fail
 refine (decCnt_any _ _ _ _ _ _ _ _ _ _ _ _ hD4).mono ?_
 rintro e w5 ⟨rfl, rfl⟩
 have q5 : ValBlk w (w4.setRow w.heap.size v) v (.int .i64 0) (.int .i64 0) := ⟨setRow_heap _ _ _ _ _ _ q4.r0, (setRow_other _ _ _ _ (by omega)).trans q4.r1, (setRow_other _ _ _ _ (by omega)).trans q4.r2⟩
 obtain ⟨c1, c2, f1, f2⟩ := q5.cells
 go_wp2_with (refine store_val rfl (.tmp 10) (.tmp 48) rfl _ rfl v rfl noVal q4.r0 rfl hv22 hv1 ?_)
 have q6 : ValBlk w (((w4.setRow w.heap.size v).setCell ⟨w.heap.size + 1, 0, none⟩ (.int .i64 k)).setCell ⟨w.heap.size + 1 + 1, 0, none⟩ (.int .i64 0)) v (.int .i64 k) (.int .i64 0) :=
  ⟨(blk_setCell_ne (by simp; omega) _).trans ((blk_setCell_ne (by simp) _).trans q5.r0), (blk_setCell_ne (by simp) _).trans (blk_setCell q5.r1 0 _), blk_setCell ((blk_setCell_ne (by simp) _).trans q5.r2) 0 _⟩
 have s6 : Stays w 3 w4.heap.size w4 (((w4.setRow w.heap.size v).setCell ⟨w.heap.size + 1, 0, none⟩ (.int .i64 k)).setCell ⟨w.heap.size + 1 + 1, 0, none⟩ (.int .i64 0)) :=
  (Stays.trans (⟨by simp, fun k _ hT => setRow_other _ _ _ _ (by omega)⟩ : Stays w 3 w4.heap.size w4 (w4.setRow w.heap.size v)) (.set1 1 (by omega) _)).trans (.set1 2 (by omega) _)
 have b6 : Below w.heap.size w4 (((w4.setRow w.heap.size v).setCell ⟨w.heap.size + 1, 0, none⟩ (.int .i64 k)).setCell ⟨w.heap.size + 1 + 1, 0, none⟩ (.int .i64 0)) :=
  ((below_setRow (Below.refl _ _) (Nat.le_refl _) _).setCell (by simp) _).setCell (by simp; omega) _
 have z6 : w4.heap.size ≤ (((w4.setRow w.heap.size v).setCell ⟨w.heap.size + 1, 0, none⟩ (.int .i64 k)).setCell ⟨w.heap.size + 1 + 1, 0, none⟩ (.int .i64 0)).heap.size := by simp
 clear c1 c2 f1 f2
 generalize (((w4.setRow w.heap.size v).setCell ⟨w.heap.size + 1, 0, none⟩ (.int .i64 k)).setCell ⟨w.heap.size + 1 + 1, 0, none⟩ (.int .i64 0)) = w6 at *
 refine leaves_cons (by simp) rfl ?_
 refine (foIdle _ _ _ w6).mono ?_
 rintro e u w7 ⟨rfl, rfl, rfl⟩
 refine ⟨.tuple #[.agg v, .int .i64 k, .int .i64 0], ?_, v, w4.heap.size, rfl, hv22, hPV'.out _ _ _ _ hPv s6, z6, hbw4.trans b6⟩
 obtain ⟨fs, hu⟩ := valStruct
 have hl := run_loadVar_row (P := Tryz.prog) w6 w.heap.size 49 49 v (0, 0) _ q6.r0 hu rfl (valSize hv22)
 obtain ⟨c1, c2, f1, f2⟩ := q6.cells
 have l1 : (loadVar 3 ⟨w.heap.size + 1, 0, none⟩).run Tryz.prog w6 = .ok (.int .i64 k) w6 := by simp [go_sem, c1]
 have l2 : (loadVar 3 ⟨w.heap.size + 1 + 1, 0, none⟩).run Tryz.prog w6 = .ok (.int .i64 0) w6 := by simp [go_sem, c2]
 simp [results, Tryz.results9, asAddr, hl, l1, l2]
end Go.Proofs.YtgamldefngehlaaGreatDoor
namespace Go.Proofs.YtgamldefngehlaaGreatDoor
open Go.RowKit
set_option maxRecDepth 100000 in
set_option maxHeartbeats 1000000 in
theorem roCoreT (w : World) (tc scale : Int) (k : Nat) (rb ro n c : Nat) (dfv emp : Bool) (bs : List Int) (hin : Input w rb ro n c bs) (hrb : rb < w.heap.size) (hn : n ≤ 20000)
  (hs0 : -10 ≤ scale) (hs1 : scale ≤ 1000) (ht0 : 0 ≤ tc) (ht1 : tc ≤ 255) (R : Value → Nat → World → Prop) (PV : Array Value → Nat → World → Prop)
  (hdec : ∀ (W : World) (base D S : Nat) (tr : Value), TrD tr → rb < base → Below w.heap.size w W → w.heap.size + 3 ≤ base → DecAt W base D S rb ro n c tr dfv emp 0 → Input W rb ro n c bs →
   Calls Tryz.prog 35 #[.int .u8 tc, .int .i64 scale, .pointer (some ⟨D, 0, none⟩)] W fun e w' => ∃ x y, e = .returned (.tuple #[x, y]) ∧ y = .nilIface ∧ R x w'.heap.size w' ∧ DecAt w' base D S rb ro n c tr dfv emp k ∧ Below base W w')
  (hval : ∀ (W : World) (B : Nat) (x : Value), R x B W → B ≤ W.heap.size → w.heap.size + 3 ≤ W.heap.size → Calls Tryz.prog 30 #[x] W fun e w' => ∃ v, e = .returned (.agg v) ∧ v.size = 22 ∧ v.all (·.oneCell') = true ∧ PV v w'.heap.size w' ∧ Below W.heap.size W w')
  (hPV : ∀ (v : Array Value) (B : Nat) (W W' : World), PV v B W → Stays w 3 B W W' → PV v B W') :
  Calls Tryz.prog 11 #[.int .i64 tc, .slice (some ⟨rb, ro, none⟩) n c, .int .i64 scale, .bool dfv, .bool emp] w fun e w' =>
   ∃ v B, e = .returned (.tuple #[.agg v, .int .i64 k, .int .i64 0]) ∧ v.size = 22 ∧ PV v B w' ∧ B ≤ w'.heap.size ∧ Below w.heap.size w w' := by
 have hmf : ∀ (fn : Fn) (first cap : Array Value) (w : World), (Instr.makeFunc fn first cap).run Tryz.prog w = .ok (.func fn first cap) w := fun _ _ _ _ => rfl
 have htc : IntKind.u8.wrap tc = tc := by simp [IntKind.wrap, IntKind.bits, IntKind.signed]; omega
 have hnn : ¬ (20000 : Int) < n := by omega
 have hdec' := Lib.hid hdec; clear hdec
 have hval' := Lib.hid hval; clear hval
 have hPV' := Lib.hid hPV; clear hPV
 go_enter_defers Tryz.func11, Tryz.ntmps11
 go_wp2_with fail
 obtain ⟨q, hb0⟩ := ValBlk.made w noVal (.int .i64 0) (.int .i64 0)
 change Calls _ _ _ (((w.alloc (.cells noVal 49)).alloc (.cells #[.int .i64 0] 3)).alloc (.cells #[.int .i64 0] 3)) _
 generalize (((w.alloc (.cells noVal 49)).alloc (.cells #[.int .i64 0] 3)).alloc (.cells #[.int .i64 0] 3)) = W0 at *
 refine (near_any scale _ hs0 hs1).mono ?_
 rintro e w2 ⟨rfl, rfl⟩
 go_wp2_with fail
 refine (decoder_any _ rb ro n c dfv emp).mono ?_
 rintro e w1 ⟨D, S, tr, rfl, hTr, hD, hb1⟩
 have q1 := q.below hb1 q.lt
 have hq1 := q1.lt
 have hbw1 := hb0.trans (hb1.mono hb0.size)
 have hz0 := hb0.size
 have hlo := hD.lo
 have hsD := sizeOf_blk hD.dec
 have hsS := sizeOf_blk hD.scr.choose_spec.2
 go_wp2_with fail
 refine (hdec'.out w1 W0.heap.size D S tr hTr (by omega) hbw1 (by have := q.lt; omega) hD (hin.below hbw1 hrb)).mono ?_
 rintro e w3 ⟨x, y, rfl, rfl, hR, hD3, hb3⟩
 have q3 := q1.below hb3 q.lt
 have hbw3 := hbw1.trans (hb3.mono hz0)
 go_wp2_with fail
 refine (decError_any _ _ _ _ _ _ _ _ _ _ _ _ hD3).mono ?_
 rintro e w4 ⟨rfl, rfl⟩
 go_wp2_with fail
 refine (hval'.out _ _ x hR (Nat.le_refl _) (by have := q3.lt; omega)).mono ?_
 rintro e w4 ⟨v, rfl, hv22, hv1, hPv, hb4⟩
 have q4 := q3.below hb4 q3.lt
 have hD4 := hD3.keep ⟨hb4.os, hb4.tape, hb4.output, hb4.size, fun k hk _ => hb4.block k hk⟩ id id
 have hbw4 := hbw3.trans (hb4.mono hbw3.size)
 go_wp2_with fail
 refine (decCnt_any _ _ _ _ _ _ _ _ _ _ _ _ hD4).mono ?_
 rintro e w5 ⟨rfl, rfl⟩
 have q5 : ValBlk w (w4.setRow w.heap.size v) v (.int .i64 0) (.int .i64 0) := ⟨setRow_heap _ _ _ _ _ _ q4.r0, (setRow_other _ _ _ _ (by omega)).trans q4.r1, (setRow_other _ _ _ _ (by omega)).trans q4.r2⟩
 obtain ⟨c1, c2, f1, f2⟩ := q5.cells
 go_wp2_with (refine store_val rfl (.tmp 10) (.tmp 47) rfl _ rfl v rfl noVal q4.r0 rfl hv22 hv1 ?_)
 have q6 : ValBlk w (((w4.setRow w.heap.size v).setCell ⟨w.heap.size + 1, 0, none⟩ (.int .i64 k)).setCell ⟨w.heap.size + 1 + 1, 0, none⟩ (.int .i64 0)) v (.int .i64 k) (.int .i64 0) :=
  ⟨(blk_setCell_ne (by simp; omega) _).trans ((blk_setCell_ne (by simp) _).trans q5.r0), (blk_setCell_ne (by simp) _).trans (blk_setCell q5.r1 0 _), blk_setCell ((blk_setCell_ne (by simp) _).trans q5.r2) 0 _⟩
 have s6 : Stays w 3 w4.heap.size w4 (((w4.setRow w.heap.size v).setCell ⟨w.heap.size + 1, 0, none⟩ (.int .i64 k)).setCell ⟨w.heap.size + 1 + 1, 0, none⟩ (.int .i64 0)) :=
  (Stays.trans (⟨by simp, fun k _ hT => setRow_other _ _ _ _ (by omega)⟩ : Stays w 3 w4.heap.size w4 (w4.setRow w.heap.size v)) (.set1 1 (by omega) _)).trans (.set1 2 (by omega) _)
 have b6 : Below w.heap.size w4 (((w4.setRow w.heap.size v).setCell ⟨w.heap.size + 1, 0, none⟩ (.int .i64 k)).setCell ⟨w.heap.size + 1 + 1, 0, none⟩ (.int .i64 0)) :=
  ((below_setRow (Below.refl _ _) (Nat.le_refl _) _).setCell (by simp) _).setCell (by simp; omega) _
 have z6 : w4.heap.size ≤ (((w4.setRow w.heap.size v).setCell ⟨w.heap.size + 1, 0, none⟩ (.int .i64 k)).setCell ⟨w.heap.size + 1 + 1, 0, none⟩ (.int .i64 0)).heap.size := by simp
 clear c1 c2 f1 f2
 generalize (((w4.setRow w.heap.size v).setCell ⟨w.heap.size + 1, 0, none⟩ (.int .i64 k)).setCell ⟨w.heap.size + 1 + 1, 0, none⟩ (.int .i64 0)) = w6 at *
 refine leaves_cons (by simp) rfl ?_
 refine (roIdle _ _ _ w6).mono ?_
 rintro e u w7 ⟨rfl, rfl, rfl⟩
 refine ⟨.tuple #[.agg v, .int .i64 k, .int .i64 0], ?_, v, w4.heap.size, rfl, hv22, hPV'.out _ _ _ _ hPv s6, z6, hbw4.trans b6⟩
 obtain ⟨fs, hu⟩ := valStruct
 have hl := run_loadVar_row (P := Tryz.prog) w6 w.heap.size 49 49 v (0, 0) _ q6.r0 hu rfl (valSize hv22)
 obtain ⟨c1, c2, f1, f2⟩ := q6.cells
 have l1 : (loadVar 3 ⟨w.heap.size + 1, 0, none⟩).run Tryz.prog w6 = .ok (.int .i64 k) w6 := by simp [go_sem, c1]
 have l2 : (loadVar 3 ⟨w.heap.size + 1 + 1, 0, none⟩).run Tryz.prog w6 = .ok (.int .i64 0) w6 := by simp [go_sem, c2]
 simp [results, Tryz.results11, asAddr, hl, l1, l2]
end Go.Proofs.YtgamldefngehlaaGreatDoor
