/- impl.FieldOf, out of the contracts of what it calls. -/
import Derived.Test.YtipoenpakjpokaaGreatDoorDec3
set_option linter.unusedVariables false
set_option linter.unusedSimpArgs false
namespace Go.Proofs.YtipoenpakjpokaaGreatDoor
open Go.RowKit

/-- The deferred closure of FieldOf finds nothing to recover. -/
theorem foIdle (p q r : Value) (w : World) : CallsD Tryz.prog 17 #[p, q, r] .returning w fun e u' w' => e = .returned (.tuple #[]) ∧ u' = .returning ∧ w = w' := by
  refine callsD_of_wpS Tryz.func17 rfl fun c₀ cs hu => ?_
  apply wpS_seq
  apply wpS_region
  simp [wpOpsS, go_sem, recoverD, hu, Tryz.ntmps17, Exit.thenS]
  refine wpS_cond (t := false) (by simp [Act.eval, Array.replicate]) ?_
  simp only [Bool.false_eq_true, if_false]
  refine wpS_of_wp (wp_skip ?_)
  cases c₀
  simp_all [bodyPostS, results, Tryz.results17]
/-- A Val of nothing. -/
def noVal : Array Value := valCells 0 false 0 0 (.slice none 0 0) ⟨#[]⟩ false (.slice none 0 0) (.slice none 0 0)
/-- The three results' blocks: a Val, two numbers. -/
structure ValBlk (w0 w : World) (v : Array Value) (a b : Value) : Prop where
  r0 : w.heap[w0.heap.size]? = some (.cells v 36 (0, 0))
  r1 : w.heap[w0.heap.size + 1]? = some (.cells #[a] 3 (0, 0))
  r2 : w.heap[w0.heap.size + 1 + 1]? = some (.cells #[b] 3 (0, 0))
theorem ValBlk.lt {w0 w : World} {v : Array Value} {a b : Value} (h : ValBlk w0 w v a b) : w0.heap.size + 1 + 1 < w.heap.size := sizeOf_blk h.r2
theorem ValBlk.below {w0 w w' : World} {v : Array Value} {a b : Value} {B : Nat} (h : ValBlk w0 w v a b) (hb : Below B w w') (hB : w0.heap.size + 1 + 1 < B) : ValBlk w0 w' v a b :=
  ⟨(hb.block _ (by omega)).trans h.r0, (hb.block _ (by omega)).trans h.r1, (hb.block _ (by omega)).trans h.r2⟩
theorem ValBlk.cells {w0 w : World} {v : Array Value} {a b : Value} (h : ValBlk w0 w v a b) :
    w.cell? ⟨w0.heap.size + 1, 0, none⟩ = some a ∧ w.cell? ⟨w0.heap.size + 1 + 1, 0, none⟩ = some b ∧
    w.frozen? ⟨w0.heap.size + 1, 0, none⟩ = false ∧ w.frozen? ⟨w0.heap.size + 1 + 1, 0, none⟩ = false :=
  ⟨by rw [cellOf h.r1]; rfl, by rw [cellOf h.r2]; rfl, frozenOf h.r1 0, frozenOf h.r2 0⟩
theorem ValBlk.made (w : World) (v : Array Value) (a b : Value) : ValBlk w (((w.alloc (.cells v 36)).alloc (.cells #[a] 3)).alloc (.cells #[b] 3)) v a b ∧
    Below w.heap.size w (((w.alloc (.cells v 36)).alloc (.cells #[a] 3)).alloc (.cells #[b] 3)) :=
  ⟨⟨blk_alloc (blk_alloc (blk_new _ _) _) _, blk_alloc (blk_new' _ _ _ (by simp)) _, blk_new' _ _ _ (by simp)⟩, (((Below.refl w.heap.size w).alloc (Nat.le_refl _) _).alloc (by simp) _).alloc (by simp; omega) _⟩

set_option maxRecDepth 100000 in
set_option maxHeartbeats 1000000 in
theorem foCore (w : World) (tc scale : Int) (k : Nat) (rb ro n c : Nat) (dfv emp : Bool) (bs : List Int) (hin : Input w rb ro n c bs) (hrb : rb < w.heap.size) (hn : n ≤ 20000)
    (hs0 : -10 ≤ scale) (hs1 : scale ≤ 1000) (ht0 : 0 ≤ tc) (ht1 : tc ≤ 255) (R : Value → Nat → World → Prop) (PV : Array Value → Nat → World → Prop)
    (hdec : ∀ (W : World) (base D S F : Nat) (tr : Value), TrD tr → FieldAt W F tc 0 scale → F ≠ D → F ≠ S → rb < base → DecAt W base D S rb ro n c tr dfv emp 0 → Input W rb ro n c bs →
      Calls Tryz.prog 19 #[.pointer (some ⟨F, 0, none⟩), .pointer (some ⟨D, 0, none⟩)] W fun e w' => ∃ x y, e = .returned (.tuple #[x, y]) ∧ y = .nilIface ∧ R x w'.heap.size w' ∧ DecAt w' base D S rb ro n c tr dfv emp k ∧ Below base W w')
    (hval : ∀ (W : World) (B : Nat) (x : Value), R x B W → B ≤ W.heap.size → Calls Tryz.prog 21 #[x] W fun e w' => ∃ v, e = .returned (.agg v) ∧ v.size = 22 ∧ v.all (·.oneCell') = true ∧ PV v w'.heap.size w' ∧ Below W.heap.size W w')
    (hPV : ∀ (v : Array Value) (B : Nat) (W W' : World), PV v B W → Stays w 3 B W W' → PV v B W') :
    Calls Tryz.prog 7 #[.int .i64 tc, .slice (some ⟨rb, ro, none⟩) n c, .int .i64 scale, .bool dfv, .bool emp] w fun e w' =>
      ∃ v B, e = .returned (.tuple #[.agg v, .int .i64 k, .int .i64 0]) ∧ v.size = 22 ∧ PV v B w' ∧ B ≤ w'.heap.size ∧ Below w.heap.size w w' := by
  have hmf : ∀ (fn : Fn) (first cap : Array Value) (w : World), (Instr.makeFunc fn first cap).run Tryz.prog w = .ok (.func fn first cap) w := fun _ _ _ _ => rfl
  have htc : IntKind.u8.wrap tc = tc := by simp [IntKind.wrap, IntKind.bits, IntKind.signed]; omega
  have hnn : ¬ (20000 : Int) < n := by omega
  have hdec' := Lib.hid hdec; clear hdec
  have hval' := Lib.hid hval; clear hval
  have hPV' := Lib.hid hPV; clear hPV
  go_enter_defers Tryz.func7, Tryz.ntmps7
  go_wp2_with fail
  obtain ⟨q, hb0⟩ := ValBlk.made w noVal (.int .i64 0) (.int .i64 0)
  change Calls _ _ _ (((w.alloc (.cells noVal 36)).alloc (.cells #[.int .i64 0] 3)).alloc (.cells #[.int .i64 0] 3)) _
  generalize (((w.alloc (.cells noVal 36)).alloc (.cells #[.int .i64 0] 3)).alloc (.cells #[.int .i64 0] 3)) = W0 at *
  refine (near_any scale _ hs0 hs1).mono ?_
  rintro e w2 ⟨rfl, rfl⟩
  go_wp2_with fail
  refine (decoder_any _ rb ro n c dfv emp).mono ?_
  rintro e w1 ⟨D, S, tr, rfl, hTr, hD, hb1⟩
  have q1 := q.below hb1 q.lt
  have hq1 := q1.lt
  have hbw1 := hb0.trans (hb1.mono hb0.size)
  have hz0 := hb0.size
  have hlo := hD.lo
  have hsD := sizeOf_blk hD.dec
  have hsS := sizeOf_blk hD.scr.choose_spec.2
  go_wp2_with fail
  refine (field_any tc 0 scale _).mono ?_
  rintro e w2 ⟨rfl, rfl⟩
  obtain ⟨hF, hbF⟩ := fieldMade w1 tc 0 scale
  have q2 := q1.below hbF hq1
  have hD2 := hD.keep ⟨hbF.os, hbF.tape, hbF.output, hbF.size, fun k hk _ => hbF.block k hk⟩ id id
  have hbw2 := hbw1.trans (hbF.mono hbw1.size)
  generalize ((w1.alloc (.cells #[.slice none 0 0] 83)).alloc (.cells (fieldCells w1.heap.size tc 0 scale) 89)) = w2 at *
  clear hD
  go_wp2_with fail
  refine (hdec'.out w2 W0.heap.size D S (w1.heap.size + 1) tr hTr hF (by omega) (by omega) (by omega) hD2 (hin.below hbw2 hrb)).mono ?_
  rintro e w3 ⟨x, y, rfl, rfl, hR, hD3, hb3⟩
  have q3 := q2.below hb3 q.lt
  have hbw3 := hbw2.trans (hb3.mono hz0)
  clear hF hbF hb1
  go_wp2_with fail
  refine (decError_any _ _ _ _ _ _ _ _ _ _ _ _ hD3).mono ?_
  rintro e w4 ⟨rfl, rfl⟩
  go_wp2_with fail
  refine (hval'.out _ _ x hR (Nat.le_refl _)).mono ?_
  rintro e w4 ⟨v, rfl, hv22, hv1, hPv, hb4⟩
  have q4 := q3.below hb4 q3.lt
  have hD4 := hD3.keep ⟨hb4.os, hb4.tape, hb4.output, hb4.size, fun k hk _ => hb4.block k hk⟩ id id
  have hbw4 := hbw3.trans (hb4.mono hbw3.size)
  go_wp2_with fail
  refine (decCnt_any _ _ _ _ _ _ _ _ _ _ _ _ hD4).mono ?_
  rintro e w5 ⟨rfl, rfl⟩
  have q5 : ValBlk w (w4.setRow w.heap.size v) v (.int .i64 0) (.int .i64 0) := ⟨setRow_heap _ _ _ _ _ _ q4.r0, (setRow_other _ _ _ _ (by omega)).trans q4.r1, (setRow_other _ _ _ _ (by omega)).trans q4.r2⟩
  obtain ⟨c1, c2, f1, f2⟩ := q5.cells
  go_wp2_with (refine store_val rfl (.tmp 10) (.tmp 48) rfl _ rfl v rfl noVal q4.r0 rfl hv22 hv1 ?_)
  have q6 : ValBlk w (((w4.setRow w.heap.size v).setCell ⟨w.heap.size + 1, 0, none⟩ (.int .i64 k)).setCell ⟨w.heap.size + 1 + 1, 0, none⟩ (.int .i64 0)) v (.int .i64 k) (.int .i64 0) :=
    ⟨(blk_setCell_ne (by simp; omega) _).trans ((blk_setCell_ne (by simp) _).trans q5.r0), (blk_setCell_ne (by simp) _).trans (blk_setCell q5.r1 0 _), blk_setCell ((blk_setCell_ne (by simp) _).trans q5.r2) 0 _⟩
  have s6 : Stays w 3 w4.heap.size w4 (((w4.setRow w.heap.size v).setCell ⟨w.heap.size + 1, 0, none⟩ (.int .i64 k)).setCell ⟨w.heap.size + 1 + 1, 0, none⟩ (.int .i64 0)) :=
    (Stays.trans (⟨by simp, fun k _ hT => setRow_other _ _ _ _ (by omega)⟩ : Stays w 3 w4.heap.size w4 (w4.setRow w.heap.size v)) (.set1 1 (by omega) _)).trans (.set1 2 (by omega) _)
  have b6 : Below w.heap.size w4 (((w4.setRow w.heap.size v).setCell ⟨w.heap.size + 1, 0, none⟩ (.int .i64 k)).setCell ⟨w.heap.size + 1 + 1, 0, none⟩ (.int .i64 0)) :=
    ((below_setRow (Below.refl _ _) (Nat.le_refl _) _).setCell (by simp) _).setCell (by simp; omega) _
  have z6 : w4.heap.size ≤ (((w4.setRow w.heap.size v).setCell ⟨w.heap.size + 1, 0, none⟩ (.int .i64 k)).setCell ⟨w.heap.size + 1 + 1, 0, none⟩ (.int .i64 0)).heap.size := by simp
  clear c1 c2 f1 f2
  generalize (((w4.setRow w.heap.size v).setCell ⟨w.heap.size + 1, 0, none⟩ (.int .i64 k)).setCell ⟨w.heap.size + 1 + 1, 0, none⟩ (.int .i64 0)) = w6 at *
  refine leaves_cons (by simp) rfl ?_
  refine (foIdle _ _ _ w6).mono ?_
  rintro e u w7 ⟨rfl, rfl, rfl⟩
  refine ⟨.tuple #[.agg v, .int .i64 k, .int .i64 0], ?_, v, w4.heap.size, rfl, hv22, hPV'.out _ _ _ _ hPv s6, z6, hbw4.trans b6⟩
  obtain ⟨fs, hu⟩ := valStruct
  have hl := run_loadVar_row (P := Tryz.prog) w6 w.heap.size 36 36 v (0, 0) _ q6.r0 hu rfl (valSize hv22)
  obtain ⟨c1, c2, f1, f2⟩ := q6.cells
  have l1 : (loadVar 3 ⟨w.heap.size + 1, 0, none⟩).run Tryz.prog w6 = .ok (.int .i64 k) w6 := by simp [go_sem, c1]
  have l2 : (loadVar 3 ⟨w.heap.size + 1 + 1, 0, none⟩).run Tryz.prog w6 = .ok (.int .i64 0) w6 := by simp [go_sem, c2]
  simp [results, Tryz.results7, asAddr, hl, l1, l2]
end Go.Proofs.YtipoenpakjpokaaGreatDoor
