/- Texts: FieldOf. (foCoreT is foCore's own walk; valOf is told that it lies behind the first three blocks.) -/
import Derived.Test.YtipoenpakjpokaaGreatDoorFoCore
import Derived.Test.YtipoenpakjpokaaGreatDoorTxtE
set_option linter.unusedVariables false
set_option linter.unusedSimpArgs false
namespace Go.Proofs.YtipoenpakjpokaaGreatDoor
open Go.RowKit

set_option maxRecDepth 100000 in
set_option maxHeartbeats 1000000 in
theorem foCoreT (w : World) (tc scale : Int) (k : Nat) (rb ro n c : Nat) (dfv emp : Bool) (bs : List Int) (hin : Input w rb ro n c bs) (hrb : rb < w.heap.size) (hn : n ≤ 20000)
    (hs0 : -10 ≤ scale) (hs1 : scale ≤ 1000) (ht0 : 0 ≤ tc) (ht1 : tc ≤ 255) (R : Value → Nat → World → Prop) (PV : Array Value → Nat → World → Prop)
    (hdec : ∀ (W : World) (base D S F : Nat) (tr : Value), TrD tr → FieldAt W F tc 0 scale → F ≠ D → F ≠ S → rb < base → DecAt W base D S rb ro n c tr dfv emp 0 → Input W rb ro n c bs →
      Calls Tryz.prog 19 #[.pointer (some ⟨F, 0, none⟩), .pointer (some ⟨D, 0, none⟩)] W fun e w' => ∃ x y, e = .returned (.tuple #[x, y]) ∧ y = .nilIface ∧ R x w'.heap.size w' ∧ DecAt w' base D S rb ro n c tr dfv emp k ∧ Below base W w')
    (hval : ∀ (W : World) (B : Nat) (x : Value), R x B W → B ≤ W.heap.size → w.heap.size + 3 ≤ W.heap.size → Calls Tryz.prog 21 #[x] W fun e w' => ∃ v, e = .returned (.agg v) ∧ v.size = 22 ∧ v.all (·.oneCell') = true ∧ PV v w'.heap.size w' ∧ Below W.heap.size W w')
    (hPV : ∀ (v : Array Value) (B : Nat) (W W' : World), PV v B W → Stays w 3 B W W' → PV v B W') :
    Calls Tryz.prog 7 #[.int .i64 tc, .slice (some ⟨rb, ro, none⟩) n c, .int .i64 scale, .bool dfv, .bool emp] w fun e w' =>
      ∃ v B, e = .returned (.tuple #[.agg v, .int .i64 k, .int .i64 0]) ∧ v.size = 22 ∧ PV v B w' ∧ B ≤ w'.heap.size ∧ Below w.heap.size w w' := by
  have hmf : ∀ (fn : Fn) (first cap : Array Value) (w : World), (Instr.makeFunc fn first cap).run Tryz.prog w = .ok (.func fn first cap) w := fun _ _ _ _ => rfl
  have htc : IntKind.u8.wrap tc = tc := by simp [IntKind.wrap, IntKind.bits, IntKind.signed]; omega
  have hnn : ¬ (20000 : Int) < n := by omega
  have hdec' := Lib.hid hdec; clear hdec
  have hval' := Lib.hid hval; clear hval
  have hPV' := Lib.hid hPV; clear hPV
  go_enter_defers Tryz.func7, Tryz.ntmps7
  go_wp2_with fail
  obtain ⟨q, hb0⟩ := ValBlk.made w noVal (.int .i64 0) (.int .i64 0)
  change Calls _ _ _ (((w.alloc (.cells noVal 36)).alloc (.cells #[.int .i64 0] 3)).alloc (.cells #[.int .i64 0] 3)) _
  generalize (((w.alloc (.cells noVal 36)).alloc (.cells #[.int .i64 0] 3)).alloc (.cells #[.int .i64 0] 3)) = W0 at *
  refine (near_any scale _ hs0 hs1).mono ?_
  rintro e w2 ⟨rfl, rfl⟩
  go_wp2_with fail
  refine (decoder_any _ rb ro n c dfv emp).mono ?_
  rintro e w1 ⟨D, S, tr, rfl, hTr, hD, hb1⟩
  have q1 := q.below hb1 q.lt
  have hq1 := q1.lt
  have hbw1 := hb0.trans (hb1.mono hb0.size)
  have hz0 := hb0.size
  have hlo := hD.lo
  have hsD := sizeOf_blk hD.dec
  have hsS := sizeOf_blk hD.scr.choose_spec.2
  go_wp2_with fail
  refine (field_any tc 0 scale _).mono ?_
  rintro e w2 ⟨rfl, rfl⟩
  obtain ⟨hF, hbF⟩ := fieldMade w1 tc 0 scale
  have q2 := q1.below hbF hq1
  have hD2 := hD.keep ⟨hbF.os, hbF.tape, hbF.output, hbF.size, fun k hk _ => hbF.block k hk⟩ id id
  have hbw2 := hbw1.trans (hbF.mono hbw1.size)
  generalize ((w1.alloc (.cells #[.slice none 0 0] 83)).alloc (.cells (fieldCells w1.heap.size tc 0 scale) 89)) = w2 at *
  clear hD
  go_wp2_with fail
  refine (hdec'.out w2 W0.heap.size D S (w1.heap.size + 1) tr hTr hF (by omega) (by omega) (by omega) hD2 (hin.below hbw2 hrb)).mono ?_
  rintro e w3 ⟨x, y, rfl, rfl, hR, hD3, hb3⟩
  have q3 := q2.below hb3 q.lt
  have hbw3 := hbw2.trans (hb3.mono hz0)
  clear hF hbF hb1
  go_wp2_with fail
  refine (decError_any _ _ _ _ _ _ _ _ _ _ _ _ hD3).mono ?_
  rintro e w4 ⟨rfl, rfl⟩
  go_wp2_with fail
  refine (hval'.out _ _ x hR (Nat.le_refl _) (by have := q3.lt; omega)).mono ?_
  rintro e w4 ⟨v, rfl, hv22, hv1, hPv, hb4⟩
  have q4 := q3.below hb4 q3.lt
  have hD4 := hD3.keep ⟨hb4.os, hb4.tape, hb4.output, hb4.size, fun k hk _ => hb4.block k hk⟩ id id
  have hbw4 := hbw3.trans (hb4.mono hbw3.size)
  go_wp2_with fail
  refine (decCnt_any _ _ _ _ _ _ _ _ _ _ _ _ hD4).mono ?_
  rintro e w5 ⟨rfl, rfl⟩
  have q5 : ValBlk w (w4.setRow w.heap.size v) v (.int .i64 0) (.int .i64 0) := ⟨setRow_heap _ _ _ _ _ _ q4.r0, (setRow_other _ _ _ _ (by omega)).trans q4.r1, (setRow_other _ _ _ _ (by omega)).trans q4.r2⟩
  obtain ⟨c1, c2, f1, f2⟩ := q5.cells
  go_wp2_with (refine store_val rfl (.tmp 10) (.tmp 48) rfl _ rfl v rfl noVal q4.r0 rfl hv22 hv1 ?_)
  have q6 : ValBlk w (((w4.setRow w.heap.size v).setCell ⟨w.heap.size + 1, 0, none⟩ (.int .i64 k)).setCell ⟨w.heap.size + 1 + 1, 0, none⟩ (.int .i64 0)) v (.int .i64 k) (.int .i64 0) :=
    ⟨(blk_setCell_ne (by simp; omega) _).trans ((blk_setCell_ne (by simp) _).trans q5.r0), (blk_setCell_ne (by simp) _).trans (blk_setCell q5.r1 0 _), blk_setCell ((blk_setCell_ne (by simp) _).trans q5.r2) 0 _⟩
  have s6 : Stays w 3 w4.heap.size w4 (((w4.setRow w.heap.size v).setCell ⟨w.heap.size + 1, 0, none⟩ (.int .i64 k)).setCell ⟨w.heap.size + 1 + 1, 0, none⟩ (.int .i64 0)) :=
    (Stays.trans (⟨by simp, fun k _ hT => setRow_other _ _ _ _ (by omega)⟩ : Stays w 3 w4.heap.size w4 (w4.setRow w.heap.size v)) (.set1 1 (by omega) _)).trans (.set1 2 (by omega) _)
  have b6 : Below w.heap.size w4 (((w4.setRow w.heap.size v).setCell ⟨w.heap.size + 1, 0, none⟩ (.int .i64 k)).setCell ⟨w.heap.size + 1 + 1, 0, none⟩ (.int .i64 0)) :=
    ((below_setRow (Below.refl _ _) (Nat.le_refl _) _).setCell (by simp) _).setCell (by simp; omega) _
  have z6 : w4.heap.size ≤ (((w4.setRow w.heap.size v).setCell ⟨w.heap.size + 1, 0, none⟩ (.int .i64 k)).setCell ⟨w.heap.size + 1 + 1, 0, none⟩ (.int .i64 0)).heap.size := by simp
  clear c1 c2 f1 f2
  generalize (((w4.setRow w.heap.size v).setCell ⟨w.heap.size + 1, 0, none⟩ (.int .i64 k)).setCell ⟨w.heap.size + 1 + 1, 0, none⟩ (.int .i64 0)) = w6 at *
  refine leaves_cons (by simp) rfl ?_
  refine (foIdle _ _ _ w6).mono ?_
  rintro e u w7 ⟨rfl, rfl, rfl⟩
  refine ⟨.tuple #[.agg v, .int .i64 k, .int .i64 0], ?_, v, w4.heap.size, rfl, hv22, hPV'.out _ _ _ _ hPv s6, z6, hbw4.trans b6⟩
  obtain ⟨fs, hu⟩ := valStruct
  have hl := run_loadVar_row (P := Tryz.prog) w6 w.heap.size 36 36 v (0, 0) _ q6.r0 hu rfl (valSize hv22)
  obtain ⟨c1, c2, f1, f2⟩ := q6.cells
  have l1 : (loadVar 3 ⟨w.heap.size + 1, 0, none⟩).run Tryz.prog w6 = .ok (.int .i64 k) w6 := by simp [go_sem, c1]
  have l2 : (loadVar 3 ⟨w.heap.size + 1 + 1, 0, none⟩).run Tryz.prog w6 = .ok (.int .i64 0) w6 := by simp [go_sem, c2]
  simp [results, Tryz.results7, asAddr, hl, l1, l2]

/-- The Val of bytes, its row behind the first three blocks. -/
def BytesVal (w : World) (ts : List Int) (v : Array Value) (B : Nat) (W : World) : Prop :=
  ∃ A m c, v = plainVal 4 false 0 0 (.slice A m c) ∧ W.ownsRow (w.heap.size + 3) 5 1 (.slice A m c) ts.length (u8s ts) ∧ ∀ k, (Value.slice A m c).ownBlock = some k → k < B

theorem BytesVal.stays {w : World} {ts : List Int} {v : Array Value} {B : Nat} {W W' : World} (h : BytesVal w ts v B W) (hs : Stays w 3 B W W') : BytesVal w ts v B W' := by
  obtain ⟨A, m, c, rfl, ho, hB⟩ := h
  refine ⟨A, m, c, rfl, ?_, hB⟩
  obtain ⟨h1, h2⟩ := ho
  refine ⟨h1, ?_⟩
  rcases h2 with h2 | ⟨g, cap, cur, hv, hg, hh, r⟩
  · exact .inl h2
  · exact .inr ⟨g, cap, cur, hv, hg, (hs.blk g (hB g (by simp [hv, Value.ownBlock])) (.inr hg)).trans hh, r⟩

theorem foText (w : World) (code : Int) (hc : VarCode code ∨ CesuCode code) (rb N c : Nat) (ts : List Int) (has : Ascii ts) (hn : ts.length ≤ 3000)
    (hin : Input w rb 0 N c ([code] ++ lenB ts.length ++ ts)) (hrb : rb < w.heap.size) :
    Calls Tryz.prog 7 #[.int .i64 code, .slice (some ⟨rb, 0, none⟩) N c, .int .i64 0, .bool true, .bool false] w fun e w' =>
      ∃ v B, e = .returned (.tuple #[.agg v, .int .i64 N, .int .i64 0]) ∧ v.size = 22 ∧ BytesVal w ts v B w' ∧ B ≤ w'.heap.size ∧ Below w.heap.size w w' := by
  have hcr : 0 ≤ code ∧ code < 128 := by rcases hc with (rfl | rfl | rfl | rfl | rfl | rfl) | (rfl | rfl | rfl | rfl) <;> decide
  have hll := lenB_le ts.length
  have hlen := hin.len
  have hN : N = 1 + (lenB ts.length).length + ts.length := by rw [← hlen]; simp; omega
  refine foCoreT w code 0 N rb 0 N c true false ([code] ++ lenB ts.length ++ ts) hin hrb (by omega) (by decide) (by decide) hcr.1 (by omega)
    (fun x B W => ∃ v, x = .iface 22 v ∧ ∃ g c, v = .slice (some ⟨g, 0, none⟩) ts.length c ∧ g < B ∧ Input W g 0 ts.length c ts) (fun v B W => BytesVal w ts v B W) ?_ ?_ (fun _ _ _ _ h hs => h.stays hs)
  · intro W base D S F tr _ hF hFD hFS hrb' hD hin'
    refine (zzFieldOf_any W _ _ _ (decPrm W base D S rb 0 N c tr true false _ code (by simp) hcr.1 hcr.2 F code 0 0 hD hin' hF hFD hFS hrb' (fun x y w' => (∃ v, x = .iface 22 v ∧ ReadRow base w' ts v) ∧ y = .nilIface ∧ DecAt w' base D S rb 0 N c tr true false N ∧ Below base W w') ?_)).mono ?_
    · intro W1 hD1 hin1 hb1
      exact (decText W1 base D S rb 0 N c tr false _ ts code 0 hc ts.length hn rfl (by simp) has hD1 hin1 hrb' (by omega) (by omega)).mono fun e w' ⟨x, y, h1, h2, h3, h4, h5⟩ => ⟨x, y, h1, h2, h3, h4, hb1.trans h5⟩
    · rintro e w' ⟨x, y, h1, ⟨v, h2, g, cc, h6, _, h7, h8⟩, h3, h4, h5⟩
      exact ⟨x, y, h1, h3, ⟨v, h2, g, cc, h6, h7, h8⟩, h4, h5⟩
  · rintro W B x ⟨v, rfl, g, cc, rfl, hg, hi⟩ hB hz
    refine (valOf4 W g ts.length cc ts hi (by omega) hn).mono ?_
    rintro e w' ⟨v, rfl, ho, hb⟩
    obtain ⟨A, m, c', rfl⟩ := slice_of ho
    exact ⟨_, rfl, rfl, plain1 _ _ _ _ A m c', ⟨A, m, c', rfl, row_lower ho hz, fun k hk => (ho.lt k hk).2⟩, hb⟩
end Go.Proofs.YtipoenpakjpokaaGreatDoor
