/- impl.FieldBytes, out of the contracts of what it calls: where the value is one that anyOf makes (fbCore's own walk). -/
import Derived.Test.YtipoenpakjpokaaGreatDoorFbCore
set_option linter.unusedVariables false
set_option linter.unusedSimpArgs false
namespace Go.Proofs.YtipoenpakjpokaaGreatDoor
open Go.RowKit

set_option maxRecDepth 100000 in
set_option maxHeartbeats 1000000 in
/-- R B W says of the value x what encodePrm asks; it speaks of blocks below B alone. -/
theorem fbCoreT (w : World) (tc prec scale sz : Int) (cs : Array Value) (hcs : cs.size = 22) (ys : List Int) (R : Value → Nat → World → Prop)
    (hp0 : -10 ≤ prec) (hp1 : prec ≤ 1000) (hs0 : -10 ≤ scale) (hs1 : scale ≤ 1000) (ht0 : 0 ≤ tc) (ht1 : tc ≤ 255)
    (hany : ∀ W : World, Below w.heap.size w W → w.heap.size + 4 ≤ W.heap.size → Calls Tryz.prog 12 #[.agg cs] W fun e w' => ∃ x, e = .returned (.tuple #[x, .bool true]) ∧ R x w'.heap.size w' ∧ Below W.heap.size W w')
    (hR : ∀ (x : Value) (B : Nat) (W W' : World), R x B W → Stays w 4 B W W' → R x B W')
    (hsize : ∀ (W : World) (x : Value) (B F : Nat), FieldAt W F tc prec scale → R x B W → Calls Tryz.prog 15 #[.pointer (some ⟨F, 0, none⟩), x] W fun e w' => e = .returned (.int .i64 sz) ∧ Below W.heap.size W w')
    (hprm : ∀ (W : World) (x : Value) (base B E S Wr F : Nat) (tr : Value), TrE tr → FieldAt W F tc prec scale → F < base → B ≤ base → R x B W → EncAt W base E S Wr tr [] →
      Calls Tryz.prog 16 #[.pointer (some ⟨F, 0, none⟩), .pointer (some ⟨E, 0, none⟩), x] W fun e w' => e = .returned .nilIface ∧ EncAt w' base E S Wr tr ys ∧ Below base W w') :
    Calls Tryz.prog 6 #[.int .i64 tc, .agg cs, .int .i64 prec, .int .i64 scale] w fun e w' =>
      ∃ v, e = .returned (.tuple #[v, .int .i64 sz, .int .i64 0]) ∧ w'.ownsRow w.heap.size 5 1 v ys.length (u8s ys) ∧ Below w.heap.size w w' := by
  have hmf : ∀ (fn : Fn) (first cap : Array Value) (w : World), (Instr.makeFunc fn first cap).run Tryz.prog w = .ok (.func fn first cap) w := fun _ _ _ _ => rfl
  have htc : IntKind.u8.wrap tc = tc := by simp [IntKind.wrap, IntKind.bits, IntKind.signed]; omega
  have hany' := Lib.hid hany; clear hany
  have hR' := Lib.hid hR; clear hR
  have hsize' := Lib.hid hsize; clear hsize
  have hprm' := Lib.hid hprm; clear hprm
  have hblk : (fbWorld w cs).heap[w.heap.size]? = some (.cells cs 36 (0, 0)) := blk_alloc (blk_alloc (blk_alloc (blk_new _ _) _) _) _
  unfold fbWorld at hblk
  go_enter_defers Tryz.func6, Tryz.ntmps6
  go_wp2_with (refine load_val rfl (.tmp 5) rfl _ rfl cs hblk hcs ?_)
  clear hblk
  have hb0 := fbWorld_below w cs
  have q := fbWorld_res w cs
  have hz0 : w.heap.size + 4 ≤ (fbWorld w cs).heap.size := by rw [fbWorld_size]; omega
  generalize hW : (((w.alloc (Obj.cells cs 36)).alloc (Obj.cells #[Value.slice none 0 0] 22)).alloc (Obj.cells #[Value.int IntKind.i64 0] 3)).alloc (Obj.cells #[Value.int IntKind.i64 0] 3) = W0
  have hW' : fbWorld w cs = W0 := hW
  rw [hW'] at hb0 q hz0
  clear hW hW'
  refine (hany'.out W0 hb0 hz0).mono ?_
  rintro e w1 ⟨x, rfl, hR1, hb1⟩
  have p1 := q.below hb1 q.lt
  have hs1' := p1.lt
  have hbw1 : Below w.heap.size w w1 := hb0.trans (hb1.mono hb0.size)
  clear q hb0 hb1
  go_wp2_with fail
  refine (near_any prec _ hp0 hp1).mono ?_
  rintro e w2 ⟨rfl, rfl⟩
  go_wp2_with fail
  refine (near_any scale _ hs0 hs1).mono ?_
  rintro e w2 ⟨rfl, rfl⟩
  go_wp2_with fail
  refine (field_any tc prec scale _).mono ?_
  rintro e w2 ⟨rfl, rfl⟩
  obtain ⟨hF, hbF⟩ := fieldMade w1 tc prec scale
  have hR2 := hR'.out _ _ _ _ hR1 (.of_below hbF)
  go_wp2_with fail
  refine (hsize'.out _ _ _ _ hF hR2).mono ?_
  rintro e w2 ⟨rfl, hb2⟩
  have hB1 : Below w1.heap.size w1 w2 := hbF.trans (hb2.mono hbF.size)
  have hF2 := hF.below hb2 (by simp)
  have hs2 := sizeOf_blk hF2.choose_spec
  have hR3 := hR'.out _ _ _ _ hR1 (.of_below hB1)
  have p2 := p1.below hB1 hs1'
  clear hF hbF hR2
  obtain ⟨c0, c1, c2, f0, f1, f2⟩ := p2.cells
  go_wp2_with fail
  have p3 := (p2.set1 (.int .i64 sz)).alloc (.cells #[.slice none 0 0] 46)
  have hbw3 : Below w.heap.size w ((w2.setCell ⟨w.heap.size + 1 + 1, 0, none⟩ (.int .i64 sz)).alloc (.cells #[.slice none 0 0] 46)) :=
    ((hbw1.trans (hB1.mono hbw1.size)).setCell (by simp; omega) _).alloc (by have := hbw1.size; have := hB1.size; simp; omega) _
  have hR4 : R x w1.heap.size ((w2.setCell ⟨w.heap.size + 1 + 1, 0, none⟩ (.int .i64 sz)).alloc (.cells #[.slice none 0 0] 46)) :=
    hR'.out _ _ _ _ hR3 ((Stays.set1 2 (by omega) (.int .i64 sz)).alloc hB1.size _)
  have hF3 : FieldAt ((w2.setCell ⟨w.heap.size + 1 + 1, 0, none⟩ (.int .i64 sz)).alloc (.cells #[.slice none 0 0] 46)) (w1.heap.size + 1) tc prec scale := by
    obtain ⟨nm, h⟩ := hF2
    exact ⟨nm, blk_alloc ((blk_setCell_ne (by simp; omega) _).trans h) _⟩
  have hW : ((w2.setCell ⟨w.heap.size + 1 + 1, 0, none⟩ (.int .i64 sz)).alloc (.cells #[.slice none 0 0] 46)).heap[w2.heap.size]? = some (.cells #[.slice none 0 0] 46 (0, 0)) := blk_new' _ _ _ (by simp)
  have hsz3 : ((w2.setCell ⟨w.heap.size + 1 + 1, 0, none⟩ (.int .i64 sz)).alloc (.cells #[.slice none 0 0] 46)).heap.size = w2.heap.size + 1 := by simp
  generalize ((w2.setCell ⟨w.heap.size + 1 + 1, 0, none⟩ (.int .i64 sz)).alloc (.cells #[.slice none 0 0] 46)) = w3 at *
  clear c0 c1 c2 f0 f1 f2 hR3 hF2
  refine (encoder_any w3 w2.heap.size w2.heap.size hW (Nat.le_refl _)).mono ?_
  rintro e w4 ⟨E, S, tr, rfl, hTr, hE, hb4⟩
  have hR5 := hR'.out _ _ _ _ hR4 (.of_below (hb4.mono (by have := hB1.size; omega)))
  have hF4 := hF3.below hb4 (by omega)
  have p4 := p3.below hb4 (by omega)
  go_wp2_with fail
  refine (hprm'.out w4 x w2.heap.size w1.heap.size E S w2.heap.size (w1.heap.size + 1) tr hTr hF4 hs2 (by omega) hR5 hE).mono ?_
  rintro e w5 ⟨rfl, hE5, hb5⟩
  have p5 := p4.below hb5 (by omega)
  have hbw5 : Below w.heap.size w w5 := (hbw3.trans (hb4.mono hbw3.size)).trans (hb5.mono (by have := hbw1.size; have := hB1.size; omega))
  obtain ⟨v, ⟨hv, ho⟩, hS⟩ := hE5.wr
  obtain ⟨A, c, rfl⟩ := ownsRow_slice ho
  have cW : w5.cell? ⟨w2.heap.size, 0, none⟩ = some (.slice A ys.length c) := by rw [cellOf hv]; rfl
  obtain ⟨c0, c1, c2, f0, f1, f2⟩ := p5.cells
  go_wp2_with fail
  go_region
  all_goals go_wp2_with fail
  have p6 : ResBlk w ((((w5.setCell ⟨w.heap.size + 1, 0, none⟩ (.slice A ys.length c)).setCell ⟨w.heap.size + 1 + 1, 0, none⟩ (.int .i64 sz)).setCell ⟨w.heap.size + 1 + 1 + 1, 0, none⟩ (.int .i64 0)).drew) 22 (.slice A ys.length c) (.int .i64 sz) (.int .i64 0) :=
    ⟨(blk_setCell_ne (by simp; try omega) _).trans ((blk_setCell_ne (by simp; try omega) _).trans (blk_setCell p5.r0 0 _)), (blk_setCell_ne (by simp) _).trans (blk_setCell ((blk_setCell_ne (by simp) _).trans p5.r1) 0 _),
      blk_setCell ((blk_setCell_ne (by simp; try omega) _).trans ((blk_setCell_ne (by simp; try omega) _).trans p5.r2)) 0 _⟩
  have k6 : Keeps (fun k => k ≤ w.heap.size + 3 ∧ w.heap.size ≤ k) w5 ((((w5.setCell ⟨w.heap.size + 1, 0, none⟩ (.slice A ys.length c)).setCell ⟨w.heap.size + 1 + 1, 0, none⟩ (.int .i64 sz)).setCell ⟨w.heap.size + 1 + 1 + 1, 0, none⟩ (.int .i64 0)).drew) :=
    (((((Keeps.refl _ w5).setCell _ _ (fun _ => ⟨by show _ + _ ≤ _; omega, by show _ ≤ _ + _; omega⟩)).setCell _ _ (fun _ => ⟨by show _ + _ ≤ _; omega, by show _ ≤ _ + _; omega⟩)).setCell _ _ (fun _ => ⟨by show _ + _ ≤ _; omega, by show _ ≤ _ + _; omega⟩)).drew)
  clear c0 c1 c2 f0 f1 f2
  generalize ((((w5.setCell ⟨w.heap.size + 1, 0, none⟩ (.slice A ys.length c)).setCell ⟨w.heap.size + 1 + 1, 0, none⟩ (.int .i64 sz)).setCell ⟨w.heap.size + 1 + 1 + 1, 0, none⟩ (.int .i64 0)).drew) = w6 at *
  refine leaves_cons (by simp) rfl ?_
  refine (fbIdle _ _ _ w6).mono ?_
  rintro e u w7 ⟨rfl, rfl, rfl⟩
  obtain ⟨c0, c1, c2, f0, f1, f2⟩ := p6.cells
  refine ⟨.tuple #[.slice A ys.length c, .int .i64 sz, .int .i64 0], ?_, _, rfl, ?_, hbw5.trans (k6.below hbw5.size (by intro k hk; omega))⟩
  · simp [results, Tryz.results6, go_sem, c0, c1, c2]
  · have := k6.ownsRow ho (fun k hk hT => by have := ownBlock_ge ho k hk.symm; have := hB1.size; omega)
    exact ⟨this.1, this.2.imp id fun ⟨g, cap, cur, a, b, r⟩ => ⟨g, cap, cur, a, by have := hB1.size; omega, r⟩⟩
end Go.Proofs.YtipoenpakjpokaaGreatDoor
