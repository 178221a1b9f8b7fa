/- Texts: LengthBytes. -/
import Derived.Test.YtipoenpakjpokaaGreatDoorTxtF
set_option linter.unusedVariables false
set_option linter.unusedSimpArgs false
namespace Go.Proofs.YtipoenpakjpokaaGreatDoor
open Go.RowKit

/-- The deferred closure of LengthBytes finds nothing to recover. -/
theorem lbIdle (p q : Value) (w : World) : CallsD Tryz.prog 8 #[p, q] .returning w fun e u' w' => e = .returned (.tuple #[]) ∧ u' = .returning ∧ w = w' := by
  refine callsD_of_wpS Tryz.func8 rfl fun c₀ cs hu => ?_
  apply wpS_seq
  apply wpS_region
  simp [wpOpsS, go_sem, recoverD, hu, Tryz.ntmps8, Exit.thenS]
  refine wpS_cond (t := false) (by simp [Act.eval, Array.replicate]) ?_
  simp only [Bool.false_eq_true, if_false]
  refine wpS_of_wp (wp_skip ?_)
  cases c₀
  simp_all [bodyPostS, results, Tryz.results8]

set_option maxRecDepth 100000 in
theorem zzVarInd_any (w : World) (base E S W : Nat) (tr : Value) (n : Nat) (h : EncAt w base E S W tr []) (hn : n ≤ 3000) :
    Calls Tryz.prog 9 #[.pointer (some ⟨E, 0, none⟩), .int .i64 n] w fun e w' => e = .returned .nilIface ∧ EncAt w' base E S W tr (lenB n) ∧ Below base w w' := by
  have hP := Lib.hid (encVarInd w base E S W tr [] h n hn (by simp))
  clear h
  go_enter Tryz.func9, Tryz.ntmps9
  go_wp2_with fail
  refine hP.out.mono ?_
  rintro e w1 ⟨rfl, h1, hb1⟩
  clear hP
  go_wp2
  exact bodyPost_ret (v := .nilIface) (by simp [results, Tryz.results9, go_sem]) rfl ⟨rfl, by simpa using h1, hb1⟩

set_option maxRecDepth 100000 in
set_option maxHeartbeats 1000000 in
theorem lengthBytes_any (w : World) (n : Nat) (hn : n ≤ 3000) :
    Calls Tryz.prog 5 #[.int .i64 n] w fun e w' =>
      ∃ v, e = .returned (.tuple #[v, .int .i64 0]) ∧ w'.ownsRow w.heap.size 5 1 v (lenB n).length (u8s (lenB n)) ∧ Below w.heap.size w w' := by
  have hmf : ∀ (fn : Fn) (first cap : Array Value) (w : World), (Instr.makeFunc fn first cap).run Tryz.prog w = .ok (.func fn first cap) w := fun _ _ _ _ => rfl
  go_enter_defers Tryz.func5, Tryz.ntmps5
  go_wp2_with fail
  obtain ⟨w3, hw3⟩ : ∃ W, W = (((w.alloc (.cells #[.slice none 0 0] 22)).alloc (.cells #[.int .i64 0] 3)).alloc (.cells #[.slice none 0 0] 46)) := ⟨_, rfl⟩
  have r0 : w3.heap[w.heap.size]? = some (.cells #[.slice none 0 0] 22 (0, 0)) := by rw [hw3]; exact blk_alloc (blk_alloc (blk_new _ _) _) _
  have r1 : w3.heap[w.heap.size + 1]? = some (.cells #[.int .i64 0] 3 (0, 0)) := by rw [hw3]; exact blk_alloc (blk_new' _ _ _ (by simp)) _
  have hW : w3.heap[w.heap.size + 1 + 1]? = some (.cells #[.slice none 0 0] 46 (0, 0)) := by rw [hw3]; exact blk_new' _ _ _ (by simp)
  have hz3 : w3.heap.size = w.heap.size + 3 := by rw [hw3]; simp
  have hb3 : Below w.heap.size w w3 := by rw [hw3]; exact (((Below.refl w.heap.size w).alloc (Nat.le_refl _) _).alloc (by simp) _).alloc (by simp; omega) _
  rw [← hw3]
  clear hw3
  refine (encoder_any w3 (w.heap.size + 1 + 1) (w.heap.size + 1 + 1) hW (Nat.le_refl _)).mono ?_
  rintro e w4 ⟨E, S, tr, rfl, hTr, hE, hb4⟩
  have q0 := (hb4.block _ (by omega)).trans r0
  have q1 := (hb4.block _ (by omega)).trans r1
  have hb4w := hb3.trans (hb4.mono (by omega))
  have hz4 := hb4.size
  clear r0 r1 hW hb3 hb4
  go_wp2_with fail
  refine (zzVarInd_any w4 _ E S _ tr n hE hn).mono ?_
  rintro e w5 ⟨rfl, hE5, hb5⟩
  have p0 := (hb5.block _ (by omega)).trans q0
  have p1 := (hb5.block _ (by omega)).trans q1
  have hbw5 := hb4w.trans (hb5.mono (by omega))
  clear q0 q1 hb4w
  obtain ⟨v, ⟨hv, ho⟩, hS⟩ := hE5.wr
  obtain ⟨A, c, rfl⟩ := ownsRow_slice ho
  have cW : w5.cell? ⟨w.heap.size + 1 + 1, 0, none⟩ = some (.slice A (lenB n).length c) := by rw [cellOf hv]; rfl
  have c0 : w5.cell? ⟨w.heap.size, 0, none⟩ = some (.slice none 0 0) := by rw [cellOf p0]; rfl
  have c1 : w5.cell? ⟨w.heap.size + 1, 0, none⟩ = some (.int .i64 0) := by rw [cellOf p1]; rfl
  have f0 := frozenOf p0 0
  have f1 := frozenOf p1 0
  clear hE hE5
  go_wp2_with fail
  obtain ⟨w6, hw6⟩ : ∃ W, W = (w5.setCell ⟨w.heap.size, 0, none⟩ (.slice A (lenB n).length c)).setCell ⟨w.heap.size + 1, 0, none⟩ (.int .i64 0) := ⟨_, rfl⟩
  have g0 : w6.heap[w.heap.size]? = some (.cells #[.slice A (lenB n).length c] 22 (0, 0)) := by rw [hw6]; exact (blk_setCell_ne (by simp) _).trans (blk_setCell p0 0 _)
  have g1 : w6.heap[w.heap.size + 1]? = some (.cells #[.int .i64 0] 3 (0, 0)) := by rw [hw6]; exact blk_setCell ((blk_setCell_ne (by simp) _).trans p1) 0 _
  have k6 : Keeps (fun k => k ≤ w.heap.size + 1 ∧ w.heap.size ≤ k) w5 w6 := by
    rw [hw6]
    exact ((Keeps.refl _ w5).setCell _ _ (fun _ => ⟨Nat.le_succ _, Nat.le_refl _⟩)).setCell _ _ (fun _ => ⟨by show _ + _ ≤ _; omega, by show _ ≤ _ + _; omega⟩)
  rw [← hw6]
  clear hw6 c0 c1 f0 f1 cW
  refine leaves_cons (by simp) rfl ?_
  refine (lbIdle _ _ w6).mono ?_
  rintro e u w7 ⟨rfl, rfl, rfl⟩
  have c0 : w6.cell? ⟨w.heap.size, 0, none⟩ = some (.slice A (lenB n).length c) := by rw [cellOf g0]; rfl
  have c1 : w6.cell? ⟨w.heap.size + 1, 0, none⟩ = some (.int .i64 0) := by rw [cellOf g1]; rfl
  refine ⟨.tuple #[.slice A (lenB n).length c, .int .i64 0], ?_, _, rfl, ?_, hbw5.trans (k6.below hbw5.size (by intro k hk; omega))⟩
  · simp [results, Tryz.results5, go_sem, c0, c1]
  · exact row_lower (k6.ownsRow ho (fun k hk hT => by have := ownBlock_ge ho k hk.symm; omega)) (by omega)
end Go.Proofs.YtipoenpakjpokaaGreatDoor
