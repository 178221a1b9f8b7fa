/- impl.FieldBytes, out of the contracts of what it calls. -/
import Derived.Test.YtipoenpakjpokaaGreatDoorEnc2
import Derived.Test.YtipoenpakjpokaaGreatDoorVals
set_option linter.unusedVariables false
set_option linter.unusedSimpArgs false
namespace Go.Proofs.YtipoenpakjpokaaGreatDoor
open Go.RowKit

/-- The deferred closure of FieldBytes finds nothing to recover. -/
theorem fbIdle (p q r : Value) (w : World) : CallsD Tryz.prog 11 #[p, q, r] .returning w fun e u' w' => e = .returned (.tuple #[]) ∧ u' = .returning ∧ w = w' := by
  refine callsD_of_wpS Tryz.func11 rfl fun c₀ cs hu => ?_
  apply wpS_seq
  apply wpS_region
  simp [wpOpsS, go_sem, recoverD, hu, Tryz.ntmps11, Exit.thenS]
  refine wpS_cond (t := false) (by simp [Act.eval, Array.replicate]) ?_
  simp only [Bool.false_eq_true, if_false]
  refine wpS_of_wp (wp_skip ?_)
  cases c₀
  simp_all [bodyPostS, results, Tryz.results11]

/-- The field at block F. -/
def FieldAt (w : World) (F : Nat) (tc prec scale : Int) : Prop := ∃ nm, w.heap[F]? = some (.cells (fieldCells nm tc prec scale) 89 (0, 0))
theorem FieldAt.cells {w : World} {F : Nat} {tc prec scale : Int} (h : FieldAt w F tc prec scale) :
    w.cell? ⟨F, 2, none⟩ = some (.int .i64 prec) ∧ w.cell? ⟨F, 3, none⟩ = some (.int .i64 scale) ∧ w.cell? ⟨F, 5, none⟩ = some (.int .u8 tc) := by
  obtain ⟨nm, h⟩ := h
  refine ⟨?_, ?_, ?_⟩ <;> rw [cellOf h] <;> rfl
theorem FieldAt.below {w w' : World} {F B : Nat} {tc prec scale : Int} (h : FieldAt w F tc prec scale) (hb : Below B w w') (hF : F < B) : FieldAt w' F tc prec scale := by
  obtain ⟨nm, h⟩ := h
  exact ⟨nm, (hb.block _ hF).trans h⟩

/-- The world behind FieldBytes' own first blocks: its parameter's, and its three results'. -/
def fbWorld (w : World) (cs : Array Value) : World := (((w.alloc (.cells cs 36)).alloc (.cells #[.slice none 0 0] 22)).alloc (.cells #[.int .i64 0] 3)).alloc (.cells #[.int .i64 0] 3)
/-- The three results' blocks. -/
structure ResBlk (w0 w : World) (t : TypeId) (v a b : Value) : Prop where
  r0 : w.heap[w0.heap.size + 1]? = some (.cells #[v] t (0, 0))
  r1 : w.heap[w0.heap.size + 1 + 1]? = some (.cells #[a] 3 (0, 0))
  r2 : w.heap[w0.heap.size + 1 + 1 + 1]? = some (.cells #[b] 3 (0, 0))
theorem ResBlk.below {w0 w w' : World} {t : TypeId} {v a b : Value} {B : Nat} (h : ResBlk w0 w t v a b) (hb : Below B w w') (hB : w0.heap.size + 1 + 1 + 1 < B) : ResBlk w0 w' t v a b :=
  ⟨(hb.block _ (by omega)).trans h.r0, (hb.block _ (by omega)).trans h.r1, (hb.block _ (by omega)).trans h.r2⟩
theorem fbWorld_size (w : World) (cs : Array Value) : (fbWorld w cs).heap.size = w.heap.size + 1 + 1 + 1 + 1 := by simp [fbWorld]
theorem fbWorld_below (w : World) (cs : Array Value) : Below w.heap.size w (fbWorld w cs) :=
  (((Below.refl w.heap.size w).alloc (Nat.le_refl _) _).alloc (by simp) _).alloc (by simp; omega) _ |>.alloc (by simp; omega) _
theorem fbWorld_res (w : World) (cs : Array Value) : ResBlk w (fbWorld w cs) 22 (.slice none 0 0) (.int .i64 0) (.int .i64 0) :=
  ⟨blk_alloc (blk_alloc (blk_new' _ _ _ (by simp)) _) _, blk_alloc (blk_new' _ _ _ (by simp)) _, blk_new' _ _ _ (by simp)⟩
theorem ResBlk.lt {w0 w : World} {t : TypeId} {v a b : Value} (h : ResBlk w0 w t v a b) : w0.heap.size + 1 + 1 + 1 < w.heap.size := sizeOf_blk h.r2
theorem ResBlk.set1 {w0 w : World} {t : TypeId} {v a b : Value} (h : ResBlk w0 w t v a b) (u : Value) : ResBlk w0 (w.setCell ⟨w0.heap.size + 1 + 1, 0, none⟩ u) t v u b :=
  ⟨(blk_setCell_ne (by simp) _).trans h.r0, blk_setCell h.r1 0 u, (blk_setCell_ne (by simp) _).trans h.r2⟩
theorem ResBlk.alloc {w0 w : World} {t : TypeId} {v a b : Value} (h : ResBlk w0 w t v a b) (o : Obj) : ResBlk w0 (w.alloc o) t v a b := ⟨blk_alloc h.r0 _, blk_alloc h.r1 _, blk_alloc h.r2 _⟩
theorem ResBlk.cells {w0 w : World} {t : TypeId} {v a b : Value} (h : ResBlk w0 w t v a b) :
    w.cell? ⟨w0.heap.size + 1, 0, none⟩ = some v ∧ w.cell? ⟨w0.heap.size + 1 + 1, 0, none⟩ = some a ∧ w.cell? ⟨w0.heap.size + 1 + 1 + 1, 0, none⟩ = some b ∧
    w.frozen? ⟨w0.heap.size + 1, 0, none⟩ = false ∧ w.frozen? ⟨w0.heap.size + 1 + 1, 0, none⟩ = false ∧ w.frozen? ⟨w0.heap.size + 1 + 1 + 1, 0, none⟩ = false :=
  ⟨by rw [cellOf h.r0]; rfl, by rw [cellOf h.r1]; rfl, by rw [cellOf h.r2]; rfl, frozenOf h.r0 0, frozenOf h.r1 0, frozenOf h.r2 0⟩

/-- A field has been made. -/
theorem fieldMade (w1 : World) (tc prec scale : Int) : FieldAt ((w1.alloc (.cells #[.slice none 0 0] 83)).alloc (.cells (fieldCells w1.heap.size tc prec scale) 89)) (w1.heap.size + 1) tc prec scale ∧
    Below w1.heap.size w1 ((w1.alloc (.cells #[.slice none 0 0] 83)).alloc (.cells (fieldCells w1.heap.size tc prec scale) 89)) :=
  ⟨⟨_, blk_new' _ _ _ (by simp)⟩, ((Below.refl w1.heap.size w1).alloc (Nat.le_refl _) _).alloc (by simp) _⟩

set_option maxRecDepth 100000 in
set_option maxHeartbeats 1000000 in
/-- R B W says of the value x what encodePrm asks; it speaks of blocks below B alone. -/
theorem fbCore (w : World) (tc prec scale sz : Int) (cs : Array Value) (hcs : cs.size = 22) (x : Value) (ys : List Int) (R : Nat → World → Prop)
    (hp0 : -10 ≤ prec) (hp1 : prec ≤ 1000) (hs0 : -10 ≤ scale) (hs1 : scale ≤ 1000) (ht0 : 0 ≤ tc) (ht1 : tc ≤ 255)
    (hany : ∀ W : World, Below w.heap.size w W → w.heap.size + 4 ≤ W.heap.size → Calls Tryz.prog 12 #[.agg cs] W fun e w' => e = .returned (.tuple #[x, .bool true]) ∧ R w'.heap.size w' ∧ Below W.heap.size W w')
    (hR : ∀ (B : Nat) (W W' : World), R B W → Stays w 4 B W W' → R B W')
    (hsize : ∀ (W : World) (B F : Nat), FieldAt W F tc prec scale → R B W → Calls Tryz.prog 15 #[.pointer (some ⟨F, 0, none⟩), x] W fun e w' => e = .returned (.int .i64 sz) ∧ Below W.heap.size W w')
    (hprm : ∀ (W : World) (base B E S Wr F : Nat) (tr : Value), TrE tr → FieldAt W F tc prec scale → F < base → B ≤ base → R B W → EncAt W base E S Wr tr [] →
      Calls Tryz.prog 16 #[.pointer (some ⟨F, 0, none⟩), .pointer (some ⟨E, 0, none⟩), x] W fun e w' => e = .returned .nilIface ∧ EncAt w' base E S Wr tr ys ∧ Below base W w') :
    Calls Tryz.prog 6 #[.int .i64 tc, .agg cs, .int .i64 prec, .int .i64 scale] w fun e w' =>
      ∃ v, e = .returned (.tuple #[v, .int .i64 sz, .int .i64 0]) ∧ w'.ownsRow w.heap.size 5 1 v ys.length (u8s ys) ∧ Below w.heap.size w w' := by
  have hmf : ∀ (fn : Fn) (first cap : Array Value) (w : World), (Instr.makeFunc fn first cap).run Tryz.prog w = .ok (.func fn first cap) w := fun _ _ _ _ => rfl
  have htc : IntKind.u8.wrap tc = tc := by simp [IntKind.wrap, IntKind.bits, IntKind.signed]; omega
  have hany' := Lib.hid hany; clear hany
  have hR' := Lib.hid hR; clear hR
  have hsize' := Lib.hid hsize; clear hsize
  have hprm' := Lib.hid hprm; clear hprm
  have hblk : (fbWorld w cs).heap[w.heap.size]? = some (.cells cs 36 (0, 0)) := blk_alloc (blk_alloc (blk_alloc (blk_new _ _) _) _) _
  unfold fbWorld at hblk
  go_enter_defers Tryz.func6, Tryz.ntmps6
  go_wp2_with (refine load_val rfl (.tmp 5) rfl _ rfl cs hblk hcs ?_)
  clear hblk
  have hb0 := fbWorld_below w cs
  have q := fbWorld_res w cs
  have hz0 : w.heap.size + 4 ≤ (fbWorld w cs).heap.size := by rw [fbWorld_size]; omega
  generalize hW : (((w.alloc (Obj.cells cs 36)).alloc (Obj.cells #[Value.slice none 0 0] 22)).alloc (Obj.cells #[Value.int IntKind.i64 0] 3)).alloc (Obj.cells #[Value.int IntKind.i64 0] 3) = W0
  have hW' : fbWorld w cs = W0 := hW
  rw [hW'] at hb0 q hz0
  clear hW hW'
  refine (hany'.out W0 hb0 hz0).mono ?_
  rintro e w1 ⟨rfl, hR1, hb1⟩
  have p1 := q.below hb1 q.lt
  have hs1' := p1.lt
  have hbw1 : Below w.heap.size w w1 := hb0.trans (hb1.mono hb0.size)
  clear q hb0 hb1
  go_wp2_with fail
  refine (near_any prec _ hp0 hp1).mono ?_
  rintro e w2 ⟨rfl, rfl⟩
  go_wp2_with fail
  refine (near_any scale _ hs0 hs1).mono ?_
  rintro e w2 ⟨rfl, rfl⟩
  go_wp2_with fail
  refine (field_any tc prec scale _).mono ?_
  rintro e w2 ⟨rfl, rfl⟩
  obtain ⟨hF, hbF⟩ := fieldMade w1 tc prec scale
  have hR2 := hR'.out _ _ _ hR1 (.of_below hbF)
  go_wp2_with fail
  refine (hsize'.out _ _ _ hF hR2).mono ?_
  rintro e w2 ⟨rfl, hb2⟩
  have hB1 : Below w1.heap.size w1 w2 := hbF.trans (hb2.mono hbF.size)
  have hF2 := hF.below hb2 (by simp)
  have hs2 := sizeOf_blk hF2.choose_spec
  have hR3 := hR'.out _ _ _ hR1 (.of_below hB1)
  have p2 := p1.below hB1 hs1'
  clear hF hbF hR2
  obtain ⟨c0, c1, c2, f0, f1, f2⟩ := p2.cells
  go_wp2_with fail
  have p3 := (p2.set1 (.int .i64 sz)).alloc (.cells #[.slice none 0 0] 46)
  have hbw3 : Below w.heap.size w ((w2.setCell ⟨w.heap.size + 1 + 1, 0, none⟩ (.int .i64 sz)).alloc (.cells #[.slice none 0 0] 46)) :=
    ((hbw1.trans (hB1.mono hbw1.size)).setCell (by simp; omega) _).alloc (by have := hbw1.size; have := hB1.size; simp; omega) _
  have hR4 : R w1.heap.size ((w2.setCell ⟨w.heap.size + 1 + 1, 0, none⟩ (.int .i64 sz)).alloc (.cells #[.slice none 0 0] 46)) :=
    hR'.out _ _ _ hR3 ((Stays.set1 2 (by omega) (.int .i64 sz)).alloc hB1.size _)
  have hF3 : FieldAt ((w2.setCell ⟨w.heap.size + 1 + 1, 0, none⟩ (.int .i64 sz)).alloc (.cells #[.slice none 0 0] 46)) (w1.heap.size + 1) tc prec scale := by
    obtain ⟨nm, h⟩ := hF2
    exact ⟨nm, blk_alloc ((blk_setCell_ne (by simp; omega) _).trans h) _⟩
  have hW : ((w2.setCell ⟨w.heap.size + 1 + 1, 0, none⟩ (.int .i64 sz)).alloc (.cells #[.slice none 0 0] 46)).heap[w2.heap.size]? = some (.cells #[.slice none 0 0] 46 (0, 0)) := blk_new' _ _ _ (by simp)
  have hsz3 : ((w2.setCell ⟨w.heap.size + 1 + 1, 0, none⟩ (.int .i64 sz)).alloc (.cells #[.slice none 0 0] 46)).heap.size = w2.heap.size + 1 := by simp
  generalize ((w2.setCell ⟨w.heap.size + 1 + 1, 0, none⟩ (.int .i64 sz)).alloc (.cells #[.slice none 0 0] 46)) = w3 at *
  clear c0 c1 c2 f0 f1 f2 hR3 hF2
  refine (encoder_any w3 w2.heap.size w2.heap.size hW (Nat.le_refl _)).mono ?_
  rintro e w4 ⟨E, S, tr, rfl, hTr, hE, hb4⟩
  have hR5 := hR'.out _ _ _ hR4 (.of_below (hb4.mono (by have := hB1.size; omega)))
  have hF4 := hF3.below hb4 (by omega)
  have p4 := p3.below hb4 (by omega)
  go_wp2_with fail
  refine (hprm'.out w4 w2.heap.size w1.heap.size E S w2.heap.size (w1.heap.size + 1) tr hTr hF4 hs2 (by omega) hR5 hE).mono ?_
  rintro e w5 ⟨rfl, hE5, hb5⟩
  have p5 := p4.below hb5 (by omega)
  have hbw5 : Below w.heap.size w w5 := (hbw3.trans (hb4.mono hbw3.size)).trans (hb5.mono (by have := hbw1.size; have := hB1.size; omega))
  obtain ⟨v, ⟨hv, ho⟩, hS⟩ := hE5.wr
  obtain ⟨A, c, rfl⟩ := ownsRow_slice ho
  have cW : w5.cell? ⟨w2.heap.size, 0, none⟩ = some (.slice A ys.length c) := by rw [cellOf hv]; rfl
  obtain ⟨c0, c1, c2, f0, f1, f2⟩ := p5.cells
  go_wp2_with fail
  go_region
  all_goals go_wp2_with fail
  have p6 : ResBlk w ((((w5.setCell ⟨w.heap.size + 1, 0, none⟩ (.slice A ys.length c)).setCell ⟨w.heap.size + 1 + 1, 0, none⟩ (.int .i64 sz)).setCell ⟨w.heap.size + 1 + 1 + 1, 0, none⟩ (.int .i64 0)).drew) 22 (.slice A ys.length c) (.int .i64 sz) (.int .i64 0) :=
    ⟨(blk_setCell_ne (by simp; try omega) _).trans ((blk_setCell_ne (by simp; try omega) _).trans (blk_setCell p5.r0 0 _)), (blk_setCell_ne (by simp) _).trans (blk_setCell ((blk_setCell_ne (by simp) _).trans p5.r1) 0 _),
      blk_setCell ((blk_setCell_ne (by simp; try omega) _).trans ((blk_setCell_ne (by simp; try omega) _).trans p5.r2)) 0 _⟩
  have k6 : Keeps (fun k => k ≤ w.heap.size + 3 ∧ w.heap.size ≤ k) w5 ((((w5.setCell ⟨w.heap.size + 1, 0, none⟩ (.slice A ys.length c)).setCell ⟨w.heap.size + 1 + 1, 0, none⟩ (.int .i64 sz)).setCell ⟨w.heap.size + 1 + 1 + 1, 0, none⟩ (.int .i64 0)).drew) :=
    (((((Keeps.refl _ w5).setCell _ _ (fun _ => ⟨by show _ + _ ≤ _; omega, by show _ ≤ _ + _; omega⟩)).setCell _ _ (fun _ => ⟨by show _ + _ ≤ _; omega, by show _ ≤ _ + _; omega⟩)).setCell _ _ (fun _ => ⟨by show _ + _ ≤ _; omega, by show _ ≤ _ + _; omega⟩)).drew)
  clear c0 c1 c2 f0 f1 f2
  generalize ((((w5.setCell ⟨w.heap.size + 1, 0, none⟩ (.slice A ys.length c)).setCell ⟨w.heap.size + 1 + 1, 0, none⟩ (.int .i64 sz)).setCell ⟨w.heap.size + 1 + 1 + 1, 0, none⟩ (.int .i64 0)).drew) = w6 at *
  refine leaves_cons (by simp) rfl ?_
  refine (fbIdle _ _ _ w6).mono ?_
  rintro e u w7 ⟨rfl, rfl, rfl⟩
  obtain ⟨c0, c1, c2, f0, f1, f2⟩ := p6.cells
  refine ⟨.tuple #[.slice A ys.length c, .int .i64 sz, .int .i64 0], ?_, _, rfl, ?_, hbw5.trans (k6.below hbw5.size (by intro k hk; omega))⟩
  · simp [results, Tryz.results6, go_sem, c0, c1, c2]
  · have := k6.ownsRow ho (fun k hk hT => by have := ownBlock_ge ho k hk.symm; have := hB1.size; omega)
    exact ⟨this.1, this.2.imp id fun ⟨g, cap, cur, a, b, r⟩ => ⟨g, cap, cur, a, by have := hB1.size; omega, r⟩⟩
end Go.Proofs.YtipoenpakjpokaaGreatDoor
