/- Parts of the walk. -/
import Derived.Test.YtgamldefngehlaaGreatDoorM01
import Derived.Test.YtgamldefngehlaaGreatDoorM05
import Derived.Test.YtgamldefngehlaaGreatDoorM08
import Derived.Defers
import Derived.Deep.RegionHeld3
set_option linter.unusedVariables false
set_option linter.unusedSimpArgs false
namespace Go.Proofs.YtgamldefngehlaaGreatDoor
open Go.RowKit
theorem appendZeros (T : TypeId) (hT : Tryz.prog.underlying T = some (.slice 225)) (ty : TypeId) (n : Nat) (h0 : 0 < n) (hn : n ≤ 100) (w : World) :
  (Builtin.append_ #[T, 3] ty #[.slice none 0 0, .int .i64 (n : Int)]).run Tryz.prog w =
   .ok (.slice (some ⟨w.heap.size, 0, none⟩) n (grownCap w n 0 225)) (w.drew.alloc (.cells (Builtin.zeroCells #[Value.int .u64 0] n ++ Builtin.zeroCells #[Value.int .u64 0] (grownCap w n 0 225 - n)) 225)) := by
 obtain ⟨i, hi, hzz⟩ := Option.map_eq_some_iff.1 Tryz.infoW
 simp only [Prod.mk.injEq] at hzz
 obtain ⟨hz, hs, hb⟩ := hzz
 have hn0 : n ≠ 0 := by omega
 have h1 : IntKind.i64.wrap (n : Int) = n := by rw [IntKind.wrap_i64]; omega
 have h2 : ¬ (n : Int) < 0 := by omega
 have h3 : ¬ (281474976710656 < (n : Int) * 8) := by omega
 have h4 : ¬ (9223372036854775807 < (n : Int)) := by omega
 have h5 : ¬ (281474976710656 < Builtin.nextslicecap n 0 * 8) := by rw [nextslicecap_zero h0]; omega
 simp [Builtin.append_, run_underlying hT, run_underlying Tryz.underlying3, sizeOf, typeInfo, zeroValue, hi, hz, hs, hb, Builtin.lenOf, asInt, asIntOf, hn0, h1, h2, h3, h4, h5, Question.forced, run_firstCells_none, newRow, grownCap, Value.cells]
theorem grownCap_ge' (w : World) (n : Nat) (e : TypeId) : n ≤ grownCap w n 0 e := grownCap_ge w n 0 e
theorem zeros_two (n c : Nat) (h : n ≤ c) : Builtin.zeroCells #[Value.int .u64 0] n ++ Builtin.zeroCells #[Value.int .u64 0] (c - n) = (u64s (List.replicate c 0)).toArray := by
 refine Array.ext (by simp [Builtin.zeroCells]; omega) fun i h1 h2 => ?_
 simp [Builtin.zeroCells, Array.getElem_append, Nat.mod_one]
theorem wpList_append_run {P : Program} {w w' : World} {ops : Array Oper} {rest : List Oper} {o : Oper} {a : Act} {Q : Exit → Act → World → Prop} (hgd : o.guard = none) (s x : Operand) (t tx : TypeId)
  (ho : o.op = .call { callee := .builtin .append, args := #[s, x], argTypes := #[t, tx] }) (sv xv v : Value) (hs : a.eval s = sv) (hx : a.eval x = xv) (hrun : (Builtin.append_ #[t, tx] o.type #[sv, xv]).run P w = .ok v w')
  (h : wpList P ops Q rest (a.put o.dst v) w') : wpList P ops Q (o :: rest) a w := by
 refine wpList_plain hgd fun K hK => ?_
 unfold Oper.wp execOp
 simp only [ho, resolve, invoke, builtin, Sem.run_bind, Sem.run_pure, Result.andThen_ok, List.map_toArray, List.map_cons, List.map_nil, hs, hx, hrun]
 exact hK _ _ h
set_option maxRecDepth 100000 in
theorem growN_any (w : World) (n : Nat) (h0 : 0 < n) (hn : n ≤ 100) :
  Calls Tryz.prog 309 #[.slice none 0 0, .int .i64 n] w fun e w' => ∃ (g c : Nat), e = .returned (.slice (some ⟨g, 0, none⟩) 0 c) ∧ n ≤ c ∧ w.heap.size ≤ g ∧ Blk w' g (List.replicate c 0) ∧ Keeps (fun _ => False) w w' := by
 have t1 : ¬ (n : Int) < 0 := by omega
 have t2 : (0 : Int) < n := by omega
 have hap := fun ty => appendZeros 137 Tryz.underlying137 ty n h0 hn w
 have hge := grownCap_ge' w n 225
 have hz2 := zeros_two n _ hge
 generalize grownCap w n 0 225 = c at *
 rw [hz2] at hap
 clear hz2
 go_enter Tryz.func309, Tryz.ntmps309
 have hap := Lib.hid hap
 go_wp2_with (refine wpList_append_run rfl (.tmp 20) (.tmp 21) 137 3 rfl _ _ _ rfl rfl (hap.out _) ?_)
 go_wp2_with fail
 go_ret
 refine ⟨w.heap.size, c, rfl, hge, Nat.le_refl _, ?_, ((Keeps.refl _ _).alloc _).drew⟩
 show Blk (w.alloc _) _ _
 unfold Blk
 rw [blk_new]
 simp [u64s]
set_option maxRecDepth 100000 in
theorem growW_any (w : World) (n : Nat) (h0 : 0 < n) (hn : n ≤ 100) :
  Calls Tryz.prog 331 #[.slice none 0 0, .int .i64 n] w fun e w' => ∃ (g c : Nat), e = .returned (.slice (some ⟨g, 0, none⟩) 0 c) ∧ n ≤ c ∧ w.heap.size ≤ g ∧ Blk w' g (List.replicate c 0) ∧ Keeps (fun _ => False) w w' := by
 have t1 : ¬ (n : Int) < 0 := by omega
 have t2 : (0 : Int) < n := by omega
 have hap := fun ty => appendZeros 136 Tryz.underlying136 ty n h0 hn w
 have hge := grownCap_ge' w n 225
 have hz2 := zeros_two n _ hge
 generalize grownCap w n 0 225 = c at *
 rw [hz2] at hap
 clear hz2
 go_enter Tryz.func331, Tryz.ntmps331
 have hap := Lib.hid hap
 go_wp2_with (refine wpList_append_run rfl (.tmp 20) (.tmp 21) 136 3 rfl _ _ _ rfl rfl (hap.out _) ?_)
 go_wp2_with fail
 go_ret
 refine ⟨w.heap.size, c, rfl, hge, Nat.le_refl _, ?_, ((Keeps.refl _ _).alloc _).drew⟩
 show Blk (w.alloc _) _ _
 unfold Blk
 rw [blk_new]
 simp [u64s]
def StkNew (w : World) (s : Nat) : Prop := w.heap[s]? = some (.cells #[.pointer none] 301 (0, 0))
structure StkHeld (w : World) (s i g L c : Nat) : Prop where
 top : w.heap[s]? = some (.cells #[.pointer (some ⟨i, 0, none⟩)] 301 (0, 0))
 inner : w.heap[i]? = some (.cells #[.slice (some ⟨g, 0, none⟩) L c] 330 (0, 0))
theorem StkNew.cell {w : World} {s : Nat} (h : StkNew w s) : w.cell? ⟨s, 0, none⟩ = some (.pointer none) := by rw [cellOf h]; rfl
set_option maxRecDepth 100000 in
theorem getStack_any (w : World) : Calls Tryz.prog 204 #[] w fun e w' => e = .returned (.pointer (some ⟨w.heap.size, 0, none⟩)) ∧ StkNew w' w.heap.size ∧ Keeps (fun _ => False) w w' := by
 go_enter Tryz.func204, Tryz.ntmps204
 go_wp2_with fail
 go_ret
 exact ⟨rfl, blk_new _ _, (Keeps.refl _ _).alloc _⟩
set_option maxRecDepth 100000 in
theorem stkNat4 (w : World) (s n : Nat) (hs : StkNew w s) (h0 : 0 < n) (hn : n ≤ 4) :
  Calls Tryz.prog 288 #[.pointer (some ⟨s, 0, none⟩), .int .i64 n] w fun e w' => ∃ (g : Nat) (C : List Nat), e = .returned (.slice (some ⟨g, 0, none⟩) n C.length) ∧ n ≤ C.length ∧ w.heap.size ≤ g ∧ Blk w' g C ∧ Keeps (fun _ => False) w w' := by
 have hc := hs.cell
 have t1 : (n : Int) ≤ 4 := by omega
 have t2 : (0 : Int) < n := by omega
 have hG := Lib.hid (growN_any w n h0 (by omega))
 go_enter Tryz.func288, Tryz.ntmps288
 go_wp2_with fail
 refine hG.out.mono ?_
 rintro e w1 ⟨g, c, rfl, hgc, hgn, hb, hk⟩
 have c0 := hb.cell 0 (by simp; omega)
 have f0 := hb.frozen 0
 have t3 : (n : Int) ≤ c := by omega
 rw [List.getElem_replicate] at c0
 go_wp2_with fail
 go_ret
 refine ⟨g, (List.replicate c 0).set 0 11259375, ?_, ?_, hgn, ?_, ?_⟩
 ·simp
 ·simpa using hgc
 ·exact hb.set 0 11259375
 ·exact hk.setCell ⟨g, 0, none⟩ _ (fun h => absurd h (by simp; omega))
set_option maxRecDepth 100000 in
theorem innerNat5 (w : World) (i : Nat) (hs : w.heap[i]? = some (.cells #[.slice none 0 0] 330 (0, 0))) :
  Calls Tryz.prog 310 #[.pointer (some ⟨i, 0, none⟩), .int .i64 5] w fun e w' => ∃ (g : Nat) (C : List Nat), e = .returned (.slice (some ⟨g, 0, none⟩) 5 5) ∧ 8 ≤ C.length ∧ w.heap.size ≤ g ∧ Blk w' g C ∧ w'.heap[i]? = some (.cells #[.slice (some ⟨g, 0, none⟩) 8 C.length] 330 (0, 0)) ∧ Keeps (fun k => k = i) w w' := by
 have hc : w.cell? ⟨i, 0, none⟩ = some (.slice none 0 0) := by rw [cellOf hs]; rfl
 have hf := frozenOf hs 0
 have hG := Lib.hid (growW_any w 8 (by omega) (by omega))
 have hb8 : bits .andNot .i64 8 3 = 8 := by decide +kernel
 go_enter Tryz.func310, Tryz.ntmps310
 go_wp2_with fail
 refine hG.out.mono ?_
 rintro e w1 ⟨g, c, rfl, hgc, hgn, hb, hk⟩
 have hs1 := hk.at_ hs (fun h => h)
 have hc1 : w1.cell? ⟨i, 0, none⟩ = some (.slice none 0 0) := by rw [cellOf hs1]; rfl
 have hf1 := frozenOf hs1 0
 have hgc8 : (8 : Int) ≤ c := by omega
 have hgi : g ≠ i := fun e => by have := sizeOf_blk hs; omega
 have c0 := hb.cell 0 (by simp; omega)
 have f0 := hb.frozen 0
 rw [List.getElem_replicate] at c0
 go_wp2_with fail
 go_ret
 have hb1 : Blk (((w1.setCell ⟨i, 0, none⟩ (.slice (some ⟨g, 0, none⟩) 0 c)).setCell ⟨i, 0, none⟩ (.slice (some ⟨g, 0, none⟩) 8 c)).setCell ⟨g, 0, none⟩ (.int .u64 1043915)) g ((List.replicate c 0).set 0 1043915) := by
  refine Blk.set ?_ 0 1043915
  unfold Blk
  rw [blk_setCell_ne hgi, blk_setCell_ne hgi]
  exact hb
 refine ⟨g, _, rfl, ?_, hgn, hb1, ?_, ?_⟩
 ·simpa using hgc
 ·rw [blk_setCell_ne (a := ⟨g, 0, none⟩) (fun e => hgi e.symm)]
  rw [blk_setCell (blk_setCell hs1 0 _) 0]
  simp
 ·have hil := sizeOf_blk hs
  exact ((((hk.mono (T' := fun k => k = i) (fun _ _ x => x.elim)).setCell ⟨i, 0, none⟩ _ (fun _ => rfl)).setCell ⟨i, 0, none⟩ _ (fun _ => rfl)).setCell ⟨g, 0, none⟩ _ (fun h => absurd h (by simp; omega)))
set_option maxRecDepth 100000 in
theorem stkNat5 (w : World) (s : Nat) (hs : StkNew w s) :
  Calls Tryz.prog 288 #[.pointer (some ⟨s, 0, none⟩), .int .i64 5] w fun e w' => ∃ (g i : Nat) (C : List Nat), e = .returned (.slice (some ⟨g, 0, none⟩) 5 5) ∧ 8 ≤ C.length ∧ w.heap.size ≤ g ∧ w.heap.size ≤ i ∧ Blk w' g C ∧ StkHeld w' s i g 8 C.length ∧ Keeps (fun k => k = s) w w' := by
 have hc := hs.cell
 have hf := frozenOf hs 0
 have hsl := sizeOf_blk hs
 have hI := innerNat5 ((w.setCell ⟨s, 0, none⟩ (.pointer (some ⟨w.heap.size, 0, none⟩))).alloc (.cells #[.slice none 0 0] 330)) w.heap.size (blk_new' _ _ _ (by simp))
 have hI := Lib.hid hI
 go_enter Tryz.func288, Tryz.ntmps288
 go_wp2_with fail
 refine hI.out.mono ?_
 rintro e w1 ⟨g, C, rfl, hC, hgn, hb, hi, hk⟩
 go_wp2_with fail
 go_ret
 have hk0 : Keeps (fun k => k = s) w ((w.setCell ⟨s, 0, none⟩ (.pointer (some ⟨w.heap.size, 0, none⟩))).alloc (.cells #[.slice none 0 0] 330)) := ((Keeps.refl (fun k => k = s) w).setCell ⟨s, 0, none⟩ _ (fun _ => rfl)).alloc _
 refine ⟨g, w.heap.size, C, rfl, hC, ?_, Nat.le_refl _, hb, ⟨?_, hi⟩, ?_⟩
 ·simp at hgn; omega
 ·refine hk.at_ (blk_alloc ?_ _) (by omega)
  rw [blk_setCell hs 0]
  simp
 ·exact hk0.trans hk (fun k hk h => by omega)
set_option maxRecDepth 100000 in
theorem stkSave (w : World) (s : Nat) (hs : StkNew w s) : Calls Tryz.prog 287 #[.pointer (some ⟨s, 0, none⟩)] w fun e w' => e = .returned (.int .i64 0) ∧ w' = w := by
 have hc := hs.cell
 go_enter Tryz.func287, Tryz.ntmps287
 go_wp2_with fail
 go_ret
 exact ⟨rfl, rfl⟩
set_option maxRecDepth 100000 in
theorem stkRestoreNew (w : World) (s : Nat) (hs : StkNew w s) (u : FrameMode) :
  CallsD Tryz.prog 286 #[.pointer (some ⟨s, 0, none⟩), .int .i64 0] u w fun e u' w' => u' = u ∧ (e = .returned (.tuple #[]) ∧ w' = w) := by
 have hc := hs.cell
 go_enter_d Tryz.func286, Tryz.ntmps286
 go_wp2_with fail
 refine bodyPost_ret (results_none rfl _ _ _) rfl ?_
 exact ⟨rfl, rfl⟩
set_option maxRecDepth 100000 in
theorem stkRestoreHeld (w : World) (s i g L c : Nat) (hs : StkHeld w s i g L c) (u : FrameMode) :
  CallsD Tryz.prog 286 #[.pointer (some ⟨s, 0, none⟩), .int .i64 0] u w fun e u' w' => u' = u ∧ (e = .returned (.tuple #[]) ∧ w' = w.setCell ⟨i, 0, none⟩ (.slice (some ⟨g, 0, none⟩) 0 c)) := by
 have hc : w.cell? ⟨s, 0, none⟩ = some (.pointer (some ⟨i, 0, none⟩)) := by rw [cellOf hs.top]; rfl
 have hi : w.cell? ⟨i, 0, none⟩ = some (.slice (some ⟨g, 0, none⟩) L c) := by rw [cellOf hs.inner]; rfl
 have hf := frozenOf hs.inner 0
 go_enter_d Tryz.func286, Tryz.ntmps286
 go_wp2
 go_end0
 go_wp2
 go_end0
 exact ⟨rfl, rfl⟩
set_option maxRecDepth 100000 in
theorem stkFreeNew (w : World) (s : Nat) (hs : StkNew w s) (u : FrameMode) :
  CallsD Tryz.prog 205 #[.pointer (some ⟨s, 0, none⟩)] u w fun e u' w' => u' = u ∧ (e = .returned (.tuple #[]) ∧ w' = w) := by
 have hc := hs.cell
 go_enter_d Tryz.func205, Tryz.ntmps205
 go_wp2_with fail
 go_end0
 exact ⟨rfl, rfl⟩
set_option maxRecDepth 100000 in
theorem stkFreeHeld (w : World) (s i g L c : Nat) (hs : StkHeld w s i g L c) (u : FrameMode) :
  CallsD Tryz.prog 205 #[.pointer (some ⟨s, 0, none⟩)] u w fun e u' w' => u' = u ∧ (e = .returned (.tuple #[]) ∧ w' = w.setCell ⟨i, 0, none⟩ (.slice (some ⟨g, 0, none⟩) 0 c)) := by
 have hc : w.cell? ⟨s, 0, none⟩ = some (.pointer (some ⟨i, 0, none⟩)) := by rw [cellOf hs.top]; rfl
 have hi : w.cell? ⟨i, 0, none⟩ = some (.slice (some ⟨g, 0, none⟩) L c) := by rw [cellOf hs.inner]; rfl
 have hf := frozenOf hs.inner 0
 go_enter_d Tryz.func205, Tryz.ntmps205
 go_wp2
 go_end0
 go_wp2
 go_end0
 exact ⟨rfl, rfl⟩
def StkIn (w : World) (s b : Nat) : Prop := StkNew w s ∨ ∃ i g L c, b ≤ i ∧ StkHeld w s i g L c
theorem StkHeld.zero {w : World} {s i g L c : Nat} (h : StkHeld w s i g L c) : StkHeld (w.setCell ⟨i, 0, none⟩ (.slice (some ⟨g, 0, none⟩) 0 c)) s i g 0 c := by
 have hsi : s ≠ i := fun e => by
  subst e
  have := h.top.symm.trans h.inner
  simp at this
 refine ⟨by rw [blk_setCell_ne hsi]; exact h.top, ?_⟩
 rw [blk_setCell h.inner 0]
 simp
theorem stkRestore (w : World) (s b : Nat) (hs : StkIn w s b) (u : FrameMode) :
  CallsD Tryz.prog 286 #[.pointer (some ⟨s, 0, none⟩), .int .i64 0] u w fun e u' w' => u' = u ∧ e = .returned (.tuple #[]) ∧ StkIn w' s b ∧ Keeps (fun k => b ≤ k) w w' ∧ (StkNew w s → w' = w) := by
 rcases hs with hs | ⟨i, g, L, c, hb, hs⟩
 ·refine (stkRestoreNew w s hs u).mono ?_
  rintro e u' w' ⟨rfl, rfl, rfl⟩
  exact ⟨rfl, rfl, .inl hs, Keeps.refl _ _, fun _ => rfl⟩
 ·refine (stkRestoreHeld w s i g L c hs u).mono ?_
  rintro e u' w' ⟨rfl, rfl, rfl⟩
  refine ⟨rfl, rfl, .inr ⟨i, g, 0, c, hb, hs.zero⟩, (Keeps.refl _ _).setCell _ _ (fun _ => hb), fun h => ?_⟩
  have := h.symm.trans hs.top
  simp at this
theorem stkFree (w : World) (s b : Nat) (hs : StkIn w s b) (u : FrameMode) :
  CallsD Tryz.prog 205 #[.pointer (some ⟨s, 0, none⟩)] u w fun e u' w' => u' = u ∧ e = .returned (.tuple #[]) ∧ Keeps (fun k => b ≤ k) w w' := by
 rcases hs with hs | ⟨i, g, L, c, hb, hs⟩
 ·refine (stkFreeNew w s hs u).mono ?_
  rintro e u' w' ⟨rfl, rfl, rfl⟩
  exact ⟨rfl, rfl, Keeps.refl _ _⟩
 ·refine (stkFreeHeld w s i g L c hs u).mono ?_
  rintro e u' w' ⟨rfl, rfl, rfl⟩
  exact ⟨rfl, rfl, (Keeps.refl _ _).setCell _ _ (fun _ => hb)⟩
theorem stkNat (w : World) (s n : Nat) (hs : StkNew w s) (h0 : 0 < n) (hn : n ≤ 5) :
  Calls Tryz.prog 288 #[.pointer (some ⟨s, 0, none⟩), .int .i64 n] w fun e w' => ∃ (g c : Nat) (C : List Nat), e = .returned (.slice (some ⟨g, 0, none⟩) n c) ∧ n ≤ c ∧ n ≤ C.length ∧ w.heap.size ≤ g ∧ Blk w' g C ∧ StkIn w' s w.heap.size ∧ Keeps (fun k => k = s) w w' ∧ (n ≤ 4 → StkNew w' s) := by
 by_cases h4 : n ≤ 4
 ·refine (stkNat4 w s n hs h0 h4).mono ?_
  rintro e w' ⟨g, C, rfl, hC, hg, hb, hk⟩
  have hs' : StkNew w' s := hk.at_ hs (fun h => h)
  exact ⟨g, _, C, rfl, hC, hC, hg, hb, .inl hs', hk.mono (fun _ _ x => x.elim), fun _ => hs'⟩
 ·obtain rfl : n = 5 := by omega
  refine (stkNat5 w s hs).mono ?_
  rintro e w' ⟨g, i, C, rfl, hC, hg, hi, hb, hh, hk⟩
  exact ⟨g, 5, C, rfl, Nat.le_refl _, by omega, hg, hb, .inr ⟨i, g, 8, _, hi, hh⟩, hk, fun h => absurd h h4⟩
end Go.Proofs.YtgamldefngehlaaGreatDoor
namespace Go.Proofs.YtgamldefngehlaaGreatDoor
open Go.RowKit
theorem norm_any (w : World) (base : Nat) (v : Value) (n : Nat) (h : NatAt w base v n) :
  Calls Tryz.prog 249 #[v] w fun e w' => ∃ v', e = .returned v' ∧ w' = w ∧ NatAt w base v' n ∧ v'.ownBlock = v.ownBlock := by
 have hn := val_digs WB_one n
 rcases h with ⟨rfl, h0⟩ | ⟨g, C, rfl, hb, hC, hw, ht, h0, hl⟩
 ·refine (norm_nil w).mono ?_
  rintro e w' ⟨rfl, rfl⟩
  rw [h0, val_nil] at hn
  subst hn
  exact ⟨_, rfl, rfl, .inl ⟨rfl, h0⟩, rfl⟩
 ·have hle : (digs WB n).length ≤ C.length := by rw [← ht]; simp; omega
  refine (norm_row w base g _ C hb hC hw hle h0 hl).mono ?_
  rintro e w' ⟨m, rfl, rfl, _, hm⟩
  rw [ht, hn] at hm
  exact ⟨_, rfl, rfl, hm, rfl⟩
structure NatNew (w w' : World) (v : Value) (n : Nat) : Prop where
 at_ : NatAt w' w.heap.size v n
 keep : Keeps (fun _ => False) w w'
theorem NatOut.new {w w' : World} {v : Value} {n : Nat} (h : NatOut w w' w.heap.size (.slice none 0 0) v (digs WB n)) : NatNew w w' v n :=
 ⟨h.row, h.keep.mono (fun k _ hk => by simp [Value.ownBlock] at hk)⟩
theorem NatOut.undrewN {w w' : World} {base q : Nat} {zv v' : Value} {xs : List Nat} (h : NatOut (w.drewN q) w' base zv v' xs) : NatOut w w' base zv v' xs :=
 ⟨h.row, ⟨h.keep.os, h.keep.tape, h.keep.output, h.keep.size, h.keep.blk⟩, h.own⟩
theorem NatRow.notNew {w : World} {b s : Nat} {v : Value} {xs : List Nat} (h : NatRow w b v xs) (hs : StkNew w s) : v.ownBlock ≠ some s := by
 intro e
 rcases h with ⟨rfl, _⟩ | ⟨g, C, rfl, _, hC, _⟩
 ·simp [Value.ownBlock] at e
 ·simp only [Value.ownBlock, Option.some.injEq] at e
  subst e
  unfold Blk at hC
  unfold StkNew at hs
  rw [hC] at hs
  simp at hs
theorem sameBlk_self {p : Addr} {n c m d : Nat} : sameBlk (.slice (some p) n c) (.slice (some p) m d) = true := by simp [sameBlk, Value.ownBlock]
set_option maxRecDepth 100000 in
set_option maxHeartbeats 2000000 in
theorem expNN_any (w : World) (bx by_ : Nat) (xv yv : Value) (a e : Nat) (hx : NatAt w bx xv a) (hy : NatAt w by_ yv e) (hap : sameBlk yv xv = false) (hnil : e = 0 → yv = .slice none 0 0) (ha1 : 1 < a) (ha : a < WB) (he : e < 1000) (hl : (digs WB (a ^ e)).length ≤ 9) (hg : Thr w) (hGL : GL ≤ w.heap.size) :
  Calls Tryz.prog 323 #[yv, .pointer none, xv, yv, .slice none 0 0, .bool false] w fun e' w' => ∃ v', e' = .returned v' ∧ NatNew w w' v' (a ^ e) := by
 have hxd : digs WB a = [a] := digs_small WB_one (by omega) ha
 have hxr : NatRow w bx xv [a] := by rw [← hxd]; exact hx
 obtain ⟨gx, Cx, rfl, hbx, hCx, hwx, htx, h0x, hlx, hxC⟩ := hxr.mk' (by simp)
 have hvx := hCx.row (xs := [a]) htx (by simpa using hxC)
 have cx := hvx 0 (by simp)
 rw [Nat.zero_add] at cx
 simp only [List.length_cons, List.length_nil, Nat.zero_add, List.getElem_cons_zero] at cx hxC hap hx hxr ⊢
 have hax1 : ((a : Int) == 1) = false := by simp; omega
 by_cases he0 : e = 0
 ·subst he0
  obtain rfl := hnil rfl
  have hA := alias_any w w.heap.size bx _ _ [] _ (.nil _ _) hxr
  have hA2 := fun q => alias_any (w.drewN q) w.heap.size w.heap.size (.slice none 0 0) (.slice none 0 0) [] [] (.nil _ _) (.nil _ _)
  rw [sameBlk_nil] at hA hA2
  have hA := Lib.hid hA
  have hA2 := Lib.hid hA2
  go_enter_defers Tryz.func323, Tryz.ntmps323
  go_wp2_with fail
  refine hA.out.mono ?_
  rintro e' w1 ⟨rfl, q, rfl⟩
  go_wp2_with fail
  refine (hA2.out q).mono ?_
  rintro e' w1 ⟨rfl, q2, rfl⟩
  have hS := Lib.hid (setWord_any (w.drewN (q + q2)) w.heap.size _ [] 1 (.nil _ _) WB_one (Nat.le_refl _))
  go_wp2_with fail
  refine hS.out.mono ?_
  rintro e' w1 ⟨v', rfl, ho⟩
  go_wp2_with fail
  refine ⟨_, results_tmp rfl _ _ _, v', rfl, ?_⟩
  rw [Nat.pow_zero]
  exact (ho.undrewN).new
 ·have hyd : digs WB e = [e] := digs_small WB_one he0 (by rw [WB_eq]; omega)
  have hyr : NatRow w by_ yv [e] := by rw [← hyd]; exact hy
  obtain ⟨gy, Cy, rfl, hby, hCy, hwy, hty, h0y, hly, hyC⟩ := hyr.mk' (by simp)
  have hvy := hCy.row (xs := [e]) hty (by simpa using hyC)
  have cy := hvy 0 (by simp)
  rw [Nat.zero_add] at cy
  simp only [List.length_cons, List.length_nil, Nat.zero_add, List.getElem_cons_zero] at cy hyC hap hy hyr ⊢
  have hA := alias_any w by_ bx _ _ _ _ hyr hxr
  have hA2 := fun q => alias_any (w.drewN q) by_ by_ _ _ _ _ hyr hyr
  rw [hap] at hA
  simp only [sameBlk_self] at hA2
  have hA := Lib.hid hA
  have hA2 := Lib.hid hA2
  by_cases he1 : e = 1
  ·subst he1
   have hS := fun q => Lib.hid (set_any (w.drewN q) w.heap.size bx (.slice none 0 0) _ [] _ (.nil _ _) hxr (Nat.le_refl _) (by simp))
   go_enter_defers Tryz.func323, Tryz.ntmps323
   go_wp2_with fail
   refine hA.out.mono ?_
   rintro e' w1 ⟨rfl, q, rfl⟩
   go_wp2_with fail
   refine (hA2.out q).mono ?_
   rintro e' w1 ⟨rfl, q2, rfl⟩
   go_wp2_with fail
   refine (hS _).out.mono ?_
   rintro e' w1 ⟨v', rfl, ho⟩
   go_wp2_with fail
   refine ⟨_, results_tmp rfl _ _ _, v', rfl, ?_⟩
   rw [Nat.pow_one]
   rw [← hxd] at ho
   exact (ho.undrewN).new
  ·have he2 : ((e : Int) == 1) = false := by simp; omega
   have hewb : e < WB := by rw [WB_eq]; omega
   obtain ⟨est, ehi, ehl⟩ := expV_start he0 hewb
   obtain ⟨sh, hsh⟩ : ∃ s, nlzN e + 1 = s := ⟨_, rfl⟩
   obtain ⟨s0, hs0⟩ : ∃ s, 63 - nlzN e = s := ⟨_, rfl⟩
   have hsl := shlI' sh e
   rw [hsh, hs0] at est
   rw [hs0] at ehi
   have hnz := Lib.hid (nlz_any e hewb)
   have e1 : IntKind.u64.wrap ((nlzN e : Int) + 1) = (sh : Int) := by rw [IntKind.wrap_u64]; omega
   have e2 : (64 : Int) - (sh : Int) = (s0 : Int) := by omega
   have e3 : IntKind.i64.wrap (sh : Int) = (sh : Int) := by rw [IntKind.wrap_i64]; omega
   rw [est] at hsl
   have hs63 : s0 ≤ 63 := by omega
   clear hsh hs0 ehl est
   generalize nlzN e = nz at *
   go_enter_defers Tryz.func323, Tryz.ntmps323
   go_wp2_with fail
   refine hA.out.mono ?_
   rintro e' w1 ⟨rfl, q, rfl⟩
   go_wp2_with fail
   refine (hA2.out q).mono ?_
   rintro e' w1 ⟨rfl, q2, rfl⟩
   go_wp2_with fail
   refine (getStack_any _).mono ?_
   rintro e' w1 ⟨rfl, hst, hk1⟩
   change StkNew w1 w.heap.size at hst
   have hk1 : Keeps (fun _ => False) w w1 := ⟨hk1.os, hk1.tape, hk1.output, hk1.size, hk1.blk⟩
   have hx1 := hxr.kept hk1 (fun _ _ h => h)
   have cy1 := hk1.cellS (a := ⟨gy, 0, none⟩) cy (fun h => h)
   have hS := Lib.hid (set_any w1 w.heap.size bx (.slice none 0 0) _ [] _ (.nil _ _) hx1 hk1.size (by simp))
   go_wp2_with fail
   refine hS.out.mono ?_
   rintro e' w2 ⟨z0, rfl, ho0⟩
   have hk2 : Keeps (fun _ => False) w w2 := hk1.trans (ho0.keep.mono (T' := fun _ => False) (fun k _ hk => by simp [Value.ownBlock] at hk)) (fun _ _ h => h)
   have cy2 := hk2.cellS (a := ⟨gy, 0, none⟩) cy (fun h => h)
   have hg2 := hg.kept hk2 (fun _ _ h => h)
   have hr0 := ho0.row
   rw [← hxd, show a = a ^ (e / 2 ^ s0) by rw [ehi, Nat.pow_one]] at hr0
   have hst2 : StkNew w2 w.heap.size := ho0.keep.at_ hst (by simp [Value.ownBlock])
   clear ho0 hk1 cy1 hst hx1
   go_wp2_with fail
   refine (hnz.out _).mono ?_
   rintro e' w3 ⟨rfl, hw3⟩
   obtain rfl := hw3.symm
   go_wp2_with fail
   go_loopw [0, 15, 19, 21] (fun z v zz j wr => ∃ (s i : Nat) (zs : List Nat), i + s = s0 ∧ j = .int .i64 i ∧ v = .int .u64 (expV e s : Nat) ∧ NatAt wr w.heap.size z (a ^ (e / 2 ^ s)) ∧ NatRow wr w.heap.size zz zs ∧ (∀ k, z.ownBlock = some k → zz.ownBlock ≠ some k) ∧ StkNew wr w.heap.size ∧ Keeps (fun _ => False) w wr) (fun _ _ _ j _ => s0 - (intOf j).toNat)
   case atStart => exact ⟨s0, 0, [], by omega, rfl, rfl, hr0, .nil _ _, fun k _ h => by simp [Value.ownBlock] at h, hst2, hk2⟩
   case round =>
    obtain ⟨s, i, zs, his, rfl, rfl, hz, hzz, hapz, hst, hk⟩ := hrel
    by_cases hi : i < s0
    ·obtain ⟨t, rfl⟩ : ∃ t, s = t + 1 := ⟨s - 1, by omega⟩
     have ht : t ≤ 63 := by omega
     have t0 : (i : Int) < s0 := by omega
     obtain ⟨z, hzu⟩ : ∃ z, z = u0 := ⟨_, rfl⟩
     obtain ⟨zz, hzzu⟩ : ∃ z, z = u19 := ⟨_, rfl⟩
     subst hzu hzzu
     have hgr := hg.kept hk (fun _ _ h => h)
     obtain ⟨p, hp⟩ : ∃ p, a ^ (e / 2 ^ (t + 1)) = p := ⟨_, rfl⟩
     have hst1 := exp_half a e t
     have hple := pow_le_bits a (by omega) e t
     rw [hp] at hst1 hz
     have hbb : e / 2 ^ t % 2 = 0 ∨ e / 2 ^ t % 2 = 1 := by omega
     have hpp : p * p ≤ a ^ e := by
      refine Nat.le_trans ?_ hple
      rw [hst1]
      exact Nat.le_mul_of_pos_right _ (Nat.pow_pos (by omega))
     have hlp := Nat.le_trans (digs_length_mono WB_one (Nat.le_trans (Nat.le_mul_self p) hpp)) hl
     have hlpp := Nat.le_trans (digs_length_mono WB_one hpp) hl
     have hSq := Lib.hid (sqr_any wr w.heap.size w.heap.size zz z (.pointer (some ⟨w.heap.size, 0, none⟩)) zs p hzz hz hk.size hgr hGL (by omega))
     have hand := expV_and e ht
     have hshl := expV_shl e ht
     have hV1 := expV_lt e (show t + 1 ≤ 64 by omega)
     generalize hev : expV e (t + 1) = v1 at *
     generalize hev0 : expV e t = v0 at *
     rcases hbb with hb | hb
     ·rw [hb] at hand hst1
      rw [Nat.zero_mul] at hand
      rw [Nat.pow_zero, Nat.mul_one] at hst1
      go_wp2_with fail
      refine hSq.out.mono ?_
      rintro e' w3 ⟨v2, rfl, ho⟩
      have hk3 : Keeps (fun _ => False) w w3 := hk.trans ho.keep (fun k hkk hT => by have := (hzz.lt k hT).1; omega)
      have hz3 : NatRow w3 w.heap.size z (digs WB p) := NatRow.kept hz ho.keep hapz
      have hap3 : ∀ k, v2.ownBlock = some k → z.ownBlock ≠ some k := fun k h2 hz' => by
       rcases ho.own k h2 with h3 | h3
       ·exact hapz k hz' h3
       ·have := (NatRow.lt hz k hz').2; omega
      have hst3 : StkNew w3 w.heap.size := ho.keep.at_ hst (hzz.notNew hst)
      have hr3 := ho.row
      rw [← hst1] at hr3
      go_wp2_with fail
      go_roundw
      case rel => exact ⟨t, i + 1, _, by omega, by go_num, by first | rfl | rw [hev0], hr3, hz3, hap3, hst3, hk3⟩
      case measure => simp [intOf]; omega
     ·rw [hb] at hand hst1
      rw [Nat.one_mul] at hand
      rw [Nat.pow_one] at hst1
      have hx3 := fun (w3 : World) (h : Keeps (fun _ => False) w w3) => NatRow.kept hxr h (fun _ _ h => h)
      go_wp2_with fail
      refine hSq.out.mono ?_
      rintro e' w3 ⟨v2, rfl, ho⟩
      have hk3 : Keeps (fun _ => False) w w3 := hk.trans ho.keep (fun k hkk hT => by have := (hzz.lt k hT).1; omega)
      have hz3 : NatRow w3 w.heap.size z (digs WB p) := NatRow.kept hz ho.keep hapz
      have hap3 : ∀ k, v2.ownBlock = some k → z.ownBlock ≠ some k := fun k h2 hz' => by
       rcases ho.own k h2 with h3 | h3
       ·exact hapz k hz' h3
       ·have := (NatRow.lt hz k hz').2; omega
      have hst3 : StkNew w3 w.heap.size := ho.keep.at_ hst (hzz.notNew hst)
      have hg3 := hg.kept hk3 (fun _ _ h => h)
      have hm := mul_any w3 w.heap.size w.heap.size bx z v2 _ (.pointer (some ⟨w.heap.size, 0, none⟩)) _ (p * p) a hz3 ho.row (by unfold NatAt; rw [hxd]; exact hx3 w3 hk3) hk3.size hg3 hGL (by omega) (by rw [hxd]; simp)
      rw [← hst1] at hm
      have hm := Lib.hid hm
      have hv2 := ho.row
      go_wp2_with fail
      refine hm.out.mono ?_
      rintro e' w4 ⟨v3, rfl, ho4⟩
      have hk4 : Keeps (fun _ => False) w w4 := hk3.trans ho4.keep (fun k hkk hT => by have := (hz3.lt k hT).1; omega)
      have hv4 : NatRow w4 w.heap.size v2 (digs WB (p * p)) := hv2.kept ho4.keep hap3
      have hap4 : ∀ k, v3.ownBlock = some k → v2.ownBlock ≠ some k := fun k h2 hz' => by
       rcases ho4.own k h2 with h3 | h3
       ·exact hap3 k hz' h3
       ·have := (hv2.lt k hz').2; omega
      have hst4 : StkNew w4 w.heap.size := ho4.keep.at_ hst3 (hz3.notNew hst3)
      have hr4 := ho4.row
      go_wp2_with fail
      go_roundw
      case rel => exact ⟨t, i + 1, _, by omega, by go_num, by first | rfl | rw [hev0], hr4, hv4, hap4, hst4, hk4⟩
      case measure => simp [intOf]; omega
    ·obtain rfl : s = 0 := by omega
     have t0 : ¬ (i : Int) < s0 := by omega
     rw [Nat.pow_zero, Nat.div_one] at hz
     have hN := Lib.hid (norm_any wr w.heap.size _ _ hz)
     go_wp2_with fail
     obtain ⟨z, hzu⟩ : ∃ z, z = u0 := ⟨_, rfl⟩
     subst hzu
     go_loopw [0, 22] (fun z1 i wx => z1 = z ∧ i = .int .i64 (-1) ∧ wx = wr) (fun _ _ _ => 0)
     case atStart => exact ⟨rfl, rfl, rfl⟩
     case round =>
      obtain ⟨rfl, rfl, rfl⟩ := hrel
      go_wp2_with fail
      refine hN.out.mono ?_
      rintro e' w5 ⟨v', rfl, hw5, hat, -⟩
      obtain rfl := hw5.symm
      go_wp2_with fail
      refine leaves_cons (by simp) rfl ?_
      refine (stkFreeNew _ _ hst _).mono ?_
      rintro e' u w7 ⟨rfl, rfl, rfl⟩
      exact ⟨_, results_tmp rfl _ _ _, v', rfl, hat, hk⟩
end Go.Proofs.YtgamldefngehlaaGreatDoor
namespace Go.Proofs.YtgamldefngehlaaGreatDoor
open Go.RowKit
theorem Known.frozen {w : World} {g : Nat} (h : Known w g) (i : Nat) : w.frozen? ⟨g, i, none⟩ = false := by
 obtain ⟨C, t, h⟩ := h; exact frozenOf h i
theorem Known.lt {w : World} {g : Nat} (h : Known w g) : g < w.heap.size := by
 obtain ⟨C, t, h⟩ := h; exact sizeOf_blk h
theorem Known.setCell {w : World} {g : Nat} (h : Known w g) (b i : Nat) (v : Value) : Known (w.setCell ⟨b, i, none⟩ v) g := by
 obtain ⟨C, t, h⟩ := h
 by_cases e : g = b
 ·subst e; exact ⟨_, _, blk_setCell h i v⟩
 ·exact ⟨_, _, (blk_setCell_ne e v).trans h⟩
theorem Known.keeps {w w' : World} {T : Nat → Prop} {g : Nat} (h : Known w g) (hk : Keeps T w w') (hT : ¬ T g) : Known w' g := h.kept (hk.blk _ h.lt hT)
theorem cell_set_same {w : World} {g i : Nat} {u : Value} (h : w.cell? ⟨g, i, none⟩ = some u) (v : Value) : (w.setCell ⟨g, i, none⟩ v).cell? ⟨g, i, none⟩ = some v := by
 simp only [World.cell?] at h ⊢
 simp only [World.setCell, Array.getElem?_modify]
 cases hh : w.heap[g]? with
 | none => simp [hh] at h
 | some o =>
  cases o with
  | cells C t fr =>
   simp only [hh] at h
   have hi : i < C.size := by
    have := h
    simp at this
    exact (Array.getElem?_eq_some_iff.1 this).1
   simp [hi]
  | _ => simp [hh] at h
theorem cell_set_ne {w : World} {a : Addr} {g i : Nat} (h : a ≠ ⟨g, i, none⟩) (v : Value) : (w.setCell ⟨g, i, none⟩ v).cell? a = w.cell? a := World.cell?_setCell_other _ _ _ _ h.symm
structure IntAt (w : World) (base g o : Nat) (s : Bool) (v : Value) (n : Nat) : Prop where
 known : Known w g
 neg : w.cell? ⟨g, o, none⟩ = some (.bool s)
 abs : w.cell? ⟨g, o + 1, none⟩ = some v
 nat : NatAt w base v n
theorem NatRow.apart {w : World} {b g o : Nat} {s : Bool} {u : Value} {xs : List Nat} (hr : NatRow w b u xs) (h : w.cell? ⟨g, o, none⟩ = some (.bool s)) : u.ownBlock ≠ some g := by
 intro e
 rcases hr with ⟨rfl, _⟩ | ⟨k, C, rfl, _, hC, _⟩
 ·simp [Value.ownBlock] at e
 ·simp only [Value.ownBlock, Option.some.injEq] at e
  subst e
  rw [cellOf hC] at h
  simp at h
theorem IntAt.kept {w w' : World} {T : Nat → Prop} {base g o n : Nat} {s : Bool} {v : Value} (h : IntAt w base g o s v n) (hk : Keeps T w w') (hg : ¬ T g) (hv : ∀ k, v.ownBlock = some k → ¬ T k) : IntAt w' base g o s v n :=
 ⟨h.known.keeps hk hg, hk.cellS h.neg hg, hk.cellS h.abs hg, h.nat.kept hk hv⟩
theorem IntAt.lower {w : World} {base base' g o n : Nat} {s : Bool} {v : Value} (h : IntAt w base g o s v n) (hb : base' ≤ base) : IntAt w base' g o s v n := ⟨h.known, h.neg, h.abs, NatRow.lower h.nat hb⟩
structure IntOut (w w' : World) (base g o : Nat) (zv : Value) (s : Bool) (v : Value) (n : Nat) : Prop where
 at_ : IntAt w' base g o s v n
 keep : Keeps (fun k => k = g ∨ zv.ownBlock = some k) w w'
 own : ∀ k, v.ownBlock = some k → zv.ownBlock = some k ∨ w.heap.size ≤ k
 rest : ∀ i, i ≠ o → i ≠ o + 1 → w'.cell? ⟨g, i, none⟩ = w.cell? ⟨g, i, none⟩
theorem IntAt.store {w w1 : World} {base g o n n' : Nat} {s : Bool} {zv v' : Value} (hz : IntAt w base g o s zv n) (ho : NatOut w w1 base zv v' (digs WB n')) (s' : Bool) :
  IntOut w ((w1.setCell ⟨g, o + 1, none⟩ v').setCell ⟨g, o, none⟩ (.bool s')) base g o zv s' v' n' := by
 have ha := NatRow.apart hz.nat hz.neg
 have hg : ¬ zv.ownBlock = some g := ha
 have hk1 := hz.known.keeps ho.keep hg
 have c0 := ho.keep.cellS hz.neg hg
 have c1 := ho.keep.cellS hz.abs hg
 have hv' : v'.ownBlock ≠ some g := fun e => by
  rcases ho.own g e with h | h
  ·exact ha h
  ·have := hz.known.lt; omega
 have kk : Keeps (fun k => k = g ∨ zv.ownBlock = some k) w ((w1.setCell ⟨g, o + 1, none⟩ v').setCell ⟨g, o, none⟩ (.bool s')) :=
  ((ho.keep.mono (fun _ _ h => .inr h)).setCell _ _ (fun _ => .inl rfl)).setCell _ _ (fun _ => .inl rfl)
 have k2 : Keeps (fun k => k = g) w1 ((w1.setCell ⟨g, o + 1, none⟩ v').setCell ⟨g, o, none⟩ (.bool s')) :=
  ((Keeps.refl (fun k => k = g) w1).setCell _ _ (fun _ => rfl)).setCell _ _ (fun _ => rfl)
 have e0 : (w1.setCell ⟨g, o + 1, none⟩ v').cell? ⟨g, o, none⟩ = some (.bool s) := (cell_set_ne (by simp) _).trans c0
 refine ⟨⟨(hk1.setCell _ _ _).setCell _ _ _, cell_set_same e0 _, ?_, ho.row.kept k2 (fun k hk e => hv' (by rw [hk, e]))⟩, kk, ho.own, fun i h1 h2 => ?_⟩
 ·rw [cell_set_ne (by simp)]; exact cell_set_same c1 _
 ·rw [cell_set_ne (by simp [h1]), cell_set_ne (by simp [h2])]
  exact ho.keep.cell (a := ⟨g, i, none⟩) hz.known.lt hg
theorem NatOut.undrew {w w' : World} {base : Nat} {zv v' : Value} {xs : List Nat} (h : NatOut w.drew w' base zv v' xs) : NatOut w w' base zv v' xs :=
 ⟨h.row, ⟨h.keep.os, h.keep.tape, h.keep.output, h.keep.size, h.keep.blk⟩, h.own⟩
structure Mid (w1 : World) (gz oz gx ox : Nat) (zv xv v' : Value) (sx : Bool) : Prop where
 f1 : w1.frozen? ⟨gz, oz + 1, none⟩ = false
 c1 : w1.cell? ⟨gz, oz + 1, none⟩ = some zv
 c2 : w1.cell? ⟨gx, ox + 1, none⟩ = some xv
 f0 : (w1.setCell ⟨gz, oz + 1, none⟩ v').frozen? ⟨gz, oz, none⟩ = false
 c0 : ∃ u, (w1.setCell ⟨gz, oz + 1, none⟩ v').cell? ⟨gz, oz, none⟩ = some u
 cx : (w1.setCell ⟨gz, oz + 1, none⟩ v').cell? ⟨gx, ox, none⟩ = some (.bool sx)
 cv : (w1.setCell ⟨gz, oz + 1, none⟩ v').cell? ⟨gz, oz + 1, none⟩ = some v'
theorem IntAt.mid {w w1 : World} {base bx gz oz gx ox nz nx : Nat} {sz sx : Bool} {zv xv v' : Value} {xs : List Nat} (hz : IntAt w base gz oz sz zv nz) (hx : IntAt w bx gx ox sx xv nx) (ho : NatOut w w1 base zv v' xs) : Mid w1 gz oz gx ox zv xv v' sx := by
 have hk := ho.keep
 have hg : ¬ zv.ownBlock = some gz := NatRow.apart hz.nat hz.neg
 have hgx : ¬ zv.ownBlock = some gx := NatRow.apart hz.nat hx.neg
 have kn := hz.known.keeps (T := fun k => zv.ownBlock = some k) hk hg
 have d1 := hk.cellS hz.abs hg
 have d0 := hk.cellS hz.neg hg
 have dx := hk.cellS hx.neg hgx
 have hne1 : (⟨gx, ox, none⟩ : Addr) ≠ ⟨gz, oz + 1, none⟩ := fun e => by
  rw [e, d1] at dx
  obtain ⟨p, c, rfl⟩ := NatRow.form hz.nat
  simp at dx
 have kx := kn.setCell gz (oz + 1) v'
 exact ⟨kn.frozen _, d1, hk.cellS hx.abs hgx, kx.frozen _, ⟨_, (cell_set_ne (by simp) _).trans d0⟩, (cell_set_ne hne1 _).trans dx, cell_set_same d1 _⟩
set_option maxRecDepth 100000 in
theorem intSet_any (w : World) (base bx gz oz gx ox nz nx : Nat) (sz sx : Bool) (zv xv : Value) (hz : IntAt w base gz oz sz zv nz) (hx : IntAt w bx gx ox sx xv nx) (hne : (⟨gz, oz, none⟩ : Addr) ≠ ⟨gx, ox, none⟩) (hB : base ≤ w.heap.size) (hl : (digs WB nx).length ≤ 100000) :
  Calls Tryz.prog 201 #[.pointer (some ⟨gz, oz, none⟩), .pointer (some ⟨gx, ox, none⟩)] w fun e w' => ∃ v', e = .returned (.pointer (some ⟨gz, oz, none⟩)) ∧ IntOut w w' base gz oz zv sx v' nx := by
 have hE := intNe w ⟨gz, oz, none⟩ ⟨gx, ox, none⟩ hz.known hx.known
 rw [decide_eq_false hne] at hE
 have hS := Lib.hid (set_any w.drew base bx zv xv _ _ hz.nat hx.nat hB hl)
 have c1 := hz.abs
 have c2 := hx.abs
 have hM := Lib.hid (fun (w1 : World) (v' : Value) (ho : NatOut w.drew w1 base zv v' (digs WB nx)) => And.intro (hz.mid hx ho.undrew) (hz.store ho.undrew sx))
 clear hz hx
 go_enter Tryz.func201, Tryz.ntmps201
 go_wp2_with fail
 go_region_law ((go_simp; go_at_call 137; refine hS.out.mono ?_; rintro e w1 ⟨v', rfl, ho⟩; obtain ⟨pv, kv, rfl⟩ := NatRow.form ho.row; obtain ⟨⟨f1, c1', c2', f0, ⟨u0, c0⟩, cx, cv⟩, hst⟩ := hM.out w1 _ ho; have hst := Lib.hid hst; clear ho))
 all_goals (go_wp2_with fail; go_ret; exact ⟨_, rfl, hst.out⟩)
theorem IntOut.trans_neg {w w1 : World} {base g o n : Nat} {zv v : Value} {s : Bool} (h : IntOut w w1 base g o zv s v n) (s' : Bool) : IntOut w (w1.setCell ⟨g, o, none⟩ (.bool s')) base g o zv s' v n := by
 have hv : v.ownBlock ≠ some g := NatRow.apart h.at_.nat h.at_.neg
 refine ⟨⟨h.at_.known.setCell _ _ _, cell_set_same h.at_.neg _, (cell_set_ne (by simp) _).trans h.at_.abs, ?_⟩, h.keep.setCell _ _ (fun _ => .inl rfl), h.own, fun i h1 h2 => (cell_set_ne (by simp [h1]) _).trans (h.rest i h1 h2)⟩
 exact NatRow.kept h.at_.nat ((Keeps.refl (fun k => k = g) w1).setCell _ _ (fun _ => rfl)) (fun k hk e => hv (by rw [hk, e]))
set_option maxRecDepth 100000 in
theorem intAbs_any (w : World) (base bx gz oz gx ox nz nx : Nat) (sz sx : Bool) (zv xv : Value) (hz : IntAt w base gz oz sz zv nz) (hx : IntAt w bx gx ox sx xv nx) (hne : (⟨gz, oz, none⟩ : Addr) ≠ ⟨gx, ox, none⟩) (hB : base ≤ w.heap.size) (hl : (digs WB nx).length ≤ 100000) :
  Calls Tryz.prog 251 #[.pointer (some ⟨gz, oz, none⟩), .pointer (some ⟨gx, ox, none⟩)] w fun e w' => ∃ v', e = .returned (.pointer (some ⟨gz, oz, none⟩)) ∧ IntOut w w' base gz oz zv false v' nx := by
 have hS := Lib.hid (intSet_any w base bx gz oz gx ox nz nx sz sx zv xv hz hx hne hB hl)
 clear hz hx
 go_enter Tryz.func251, Tryz.ntmps251
 go_wp2_with fail
 refine hS.out.mono ?_
 rintro e w1 ⟨v', rfl, ho⟩
 have f0 := ho.at_.known.frozen oz
 have c0 := ho.at_.neg
 have hst := Lib.hid (ho.trans_neg false)
 clear ho
 go_wp2_with fail
 go_ret
 exact ⟨_, rfl, hst.out⟩
set_option maxRecDepth 100000 in
theorem intNegSelf_any (w : World) (base gz oz nz : Nat) (sz : Bool) (zv : Value) (hz : IntAt w base gz oz sz zv nz) :
  Calls Tryz.prog 135 #[.pointer (some ⟨gz, oz, none⟩), .pointer (some ⟨gz, oz, none⟩)] w fun e w' => e = .returned (.pointer (some ⟨gz, oz, none⟩)) ∧ w' = w.setCell ⟨gz, oz, none⟩ (.bool (decide (nz ≠ 0) && !sz)) := by
 have hE := intNe w ⟨gz, oz, none⟩ ⟨gz, oz, none⟩ hz.known hz.known
 rw [decide_eq_true rfl] at hE
 have hS : Calls Tryz.prog 201 #[.pointer (some ⟨gz, oz, none⟩), .pointer (some ⟨gz, oz, none⟩)] w fun e w' => e = .returned (.pointer (some ⟨gz, oz, none⟩)) ∧ w' = w := by
  go_enter Tryz.func201, Tryz.ntmps201
  go_wp2_with fail
  go_ret
  exact ⟨rfl, rfl⟩
 have hS := Lib.hid hS
 obtain ⟨pv, kv, rfl⟩ := NatRow.form hz.nat
 have f0 := hz.known.frozen oz
 have c0 := hz.neg
 have c1 := hz.abs
 clear hz
 have hd := digs_len_pos WB_one (n := nz)
 go_enter Tryz.func135, Tryz.ntmps135
 go_wp2_with fail
 refine hS.out.mono ?_
 rintro e w1 ⟨rfl, hw⟩
 obtain rfl := hw.symm
 by_cases h0 : nz = 0
 ·have hl0 : (digs WB nz).length = 0 := by omega
  rw [hl0] at c1
  go_wp2_with fail
  go_ret
  exact ⟨rfl, by simp [h0]⟩
 ·have t0 : (0 : Int) < (digs WB nz).length := by have := hd.2 h0; omega
  go_wp2_with fail
  go_ret
  exact ⟨rfl, by simp [h0]⟩
theorem IntAt.self {w : World} {base gz oz nz : Nat} {sz : Bool} {zv : Value} (hz : IntAt w base gz oz sz zv nz) (s : Bool) : IntOut w (w.setCell ⟨gz, oz, none⟩ (.bool s)) base gz oz zv s zv nz :=
 IntOut.trans_neg (w := w) ⟨hz, Keeps.refl _ _, fun _ h => .inl h, fun _ _ _ => rfl⟩ s
set_option maxRecDepth 100000 in
theorem intSign_any (w : World) (base g o n : Nat) (s : Bool) (v : Value) (h : IntAt w base g o s v n) (hn : s = true → n ≠ 0) :
  Calls Tryz.prog 61 #[.pointer (some ⟨g, o, none⟩)] w fun e w' => e = .returned (.int .i64 (if n = 0 then 0 else if s = true then -1 else 1)) ∧ w' = w := by
 obtain ⟨pv, kv, rfl⟩ := NatRow.form h.nat
 have c0 := h.neg
 have c1 := h.abs
 clear h
 have hd := digs_len_pos WB_one (n := n)
 by_cases h0 : n = 0
 ·have hl0 : (digs WB n).length = 0 := by omega
  rw [hl0] at c1
  rw [if_pos h0]
  go_enter Tryz.func61, Tryz.ntmps61
  go_wp2_with fail
  go_ret
  exact ⟨rfl, rfl⟩
 ·have t0 : ¬ ((digs WB n).length : Int) = 0 := by have := hd.2 h0; omega
  rw [if_neg h0]
  cases s
  ·go_enter Tryz.func61, Tryz.ntmps61
   go_wp2_with fail
   go_ret
   exact ⟨rfl, rfl⟩
  ·go_enter Tryz.func61, Tryz.ntmps61
   go_wp2_with fail
   go_ret
   exact ⟨rfl, rfl⟩
structure IntNew (w w' : World) (g : Nat) (s : Bool) (v : Value) (n : Nat) : Prop where
 at_ : IntAt w' w.heap.size g 0 s v n
 keep : Keeps (fun _ => False) w w'
 ge : w.heap.size ≤ g
theorem intNew_of {w w1 : World} {n : Nat} {v : Value} (s : Bool) (hk : Keeps (fun _ => False) w w1) (hv : NatAt w1 w.heap.size v n) : IntNew w (w1.alloc (.cells #[.bool s, v] 139)) w1.heap.size s v n := by
 have hb := blk_new w1 (.cells #[.bool s, v] 139 (0, 0))
 exact ⟨⟨⟨_, _, hb⟩, by rw [cellOf hb]; rfl, by rw [cellOf hb]; rfl, NatRow.kept hv ((Keeps.refl (fun _ => False) w1).alloc _) (fun _ _ h => h)⟩, hk.alloc _, hk.size⟩
theorem natNew_one (w : World) (x : Nat) (h0 : x ≠ 0) (hx : x < WB) : NatAt (w.alloc (.cells #[.int .u64 (x : Int)] 225)) w.heap.size (.slice (some ⟨w.heap.size, 0, none⟩) 1 1) x := by
 unfold NatAt
 rw [digs_small WB_one h0 hx]
 have hb : Blk (w.alloc (.cells #[.int .u64 (x : Int)] 225)) w.heap.size [x] := blk_new w _
 exact .inr ⟨w.heap.size, [x], rfl, Nat.le_refl _, hb, Words.one hx, rfl, by simp, by simp⟩
set_option maxRecDepth 100000 in
theorem newInt_any (w : World) (x : Nat) (hx : x < 9223372036854775808) :
  Calls Tryz.prog 206 #[.int .i64 x] w fun e w' => ∃ g v, e = .returned (.pointer (some ⟨g, 0, none⟩)) ∧ IntNew w w' g false v x ∧ (x = 0 → v = .slice none 0 0) := by
 have w1 : IntKind.u64.wrap (x : Int) = (x : Int) := wrapW (by rw [WB_eq]; omega)
 have t0 : ¬ (x : Int) < 0 := by omega
 by_cases h0 : x = 0
 ·subst h0
  go_enter Tryz.func206, Tryz.ntmps206
  go_wp2_with fail
  go_ret
  exact ⟨w.heap.size, rfl, intNew_of false (Keeps.refl (fun _ => False) w) (by unfold NatAt; rw [digs_zero]; exact .nil _ _)⟩
 ·have t1 : ¬ (x : Int) = 0 := by omega
  have hN := natNew_one w x h0 (by rw [WB_eq]; omega)
  have hI := Lib.hid (intNew_of false ((Keeps.refl (fun _ => False) w).alloc _) hN)
  go_enter Tryz.func206, Tryz.ntmps206
  go_wp2_with fail
  go_ret
  exact ⟨w.heap.size + 1, rfl, .slice (some ⟨w.heap.size, 0, none⟩) 1 1, by simpa using hI.out⟩
set_option maxRecDepth 100000 in
theorem natOne_any (w : World) : Calls Tryz.prog 260 #[] w fun e w' => ∃ v, e = .returned v ∧ NatAt w' w.heap.size v 1 ∧ Keeps (fun _ => False) w w' := by
 have hN := Lib.hid (natNew_one w 1 (by omega) WB_one)
 go_enter Tryz.func260, Tryz.ntmps260
 go_wp2_with fail
 go_ret
 exact ⟨_, rfl, hN.out, (Keeps.refl _ _).alloc _⟩
set_option maxRecDepth 100000 in
theorem intOne_any (w : World) : Calls Tryz.prog 209 #[] w fun e w' => ∃ g v, e = .returned (.pointer (some ⟨g, 0, none⟩)) ∧ IntNew w w' g false v 1 := by
 have hN := Lib.hid (natOne_any w)
 go_enter Tryz.func209, Tryz.ntmps209
 go_wp2_with fail
 refine hN.out.mono ?_
 rintro e w1 ⟨v, rfl, hv, hk⟩
 obtain ⟨p, c, rfl⟩ := NatRow.form hv
 have hI := Lib.hid (intNew_of false hk hv)
 clear hv
 go_wp2_with fail
 go_ret
 exact ⟨_, _, rfl, hI.out⟩
end Go.Proofs.YtgamldefngehlaaGreatDoor
