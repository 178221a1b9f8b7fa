/- The reference's fractions: the calls, part 2. -/
import Derived.Test.YtgamldefngehlaaGreatDoorM40
set_option linter.unusedVariables false
set_option linter.unusedSimpArgs false
namespace Go.Proofs.YtgamldefngehlaaGreatDoor
open Go.RowKit Go.Proofs.YtgamldefngehlaaGreatDoorW.PrintWords Go.Proofs.YtgamldefngehlaaGreatDoorW.PrintMore Go.Proofs.YtgamldefngehlaaGreatDoorW.PrintLast
theorem posDec (n : Nat) : decide (0 < (digs LB n).length) = decide (n ≠ 0) := decide_eq_decide.2 (digs_len_pos LB_one)
theorem three_boxes (w : World) (o1 o2 o3 : Obj) : (((w.alloc o1).alloc o2).alloc o3).heap[w.heap.size]? = some o1 ∧ (((w.alloc o1).alloc o2).alloc o3).heap[w.heap.size + 1]? = some o2 ∧ (((w.alloc o1).alloc o2).alloc o3).heap[w.heap.size + 1 + 1]? = some o3 ∧ Below w.heap.size w (((w.alloc o1).alloc o2).alloc o3) ∧ (((w.alloc o1).alloc o2).alloc o3).heap.size = w.heap.size + 3 := by
 obtain ⟨h0, h1, h2, h3⟩ := two_boxes w o1 o2
 refine ⟨blk_alloc h0 _, blk_alloc h1 _, ?_, h2.alloc (by omega) _, by simp⟩
 have := blk_new ((w.alloc o1).alloc o2) o3
 rw [h3] at this
 exact this
theorem digs_ten {x : Nat} (h : x ≤ 60) : (digs LB (10 ^ x)).length ≤ 7 := by
 rw [pow10_digs x]
 simp
 omega
set_option maxRecDepth 100000 in
theorem decFracE_any {w : World} {v : Value} {n : Nat} (neg : Bool) (h : NatS w v n) (hl : (digs LB n).length ≤ 1000) (x : Nat) (hx : x ≤ 60) :
  Calls Tryz.prog 6 #[.agg #[.bool neg, v, .int .i64 x]] w fun e w' => ∃ r s, e = .returned (.agg #[.bool (neg && decide (n * 10 ^ x ≠ 0)), r, s]) ∧ NatS w' r (n * 10 ^ x) ∧ NatS w' s 1 ∧ Below w.heap.size w w' := by
 have hN := Lib.hid h
 obtain ⟨A, c, rfl, hc, hr⟩ := h
 clear hc hr
 have hl' := Lib.hid hl
 clear hl
 have hx' : (0 : Int) ≤ (x : Int) := by omega
 obtain ⟨L, hL⟩ : ∃ L, L = (digs LB n).length := ⟨_, rfl⟩
 rw [← hL] at hN ⊢
 clear hL
 obtain ⟨b0, b1, hbel, hsz⟩ := two_boxes w (.cells #[.bool neg, .slice A L c, .int .i64 x] 35 (0, 0)) (.cells #[.bool false, .slice none 0 0, .slice none 0 0] 33 (0, 0))
 go_enter Tryz.func6, Tryz.ntmps6
 go_wp2_with fail
 generalize (w.alloc (.cells #[.bool neg, .slice A L c, .int .i64 x] 35 (0, 0))).alloc (.cells #[.bool false, .slice none 0 0, .slice none 0 0] 33 (0, 0)) = W0 at *
 have k0 : W0.cell? ⟨w.heap.size, 0, none⟩ = some (.bool neg) := by rw [cellOf b0]; rfl
 have k1 : W0.cell? ⟨w.heap.size, 1, none⟩ = some (.slice A L c) := by rw [cellOf b0]; rfl
 have k2 : W0.cell? ⟨w.heap.size, 2, none⟩ = some (.int .i64 x) := by rw [cellOf b0]; rfl
 refine start_ (n := 14) (S := fun W => W.cell? ⟨w.heap.size, 0, none⟩ = some (.bool neg) ∧ W.cell? ⟨w.heap.size, 1, none⟩ = some (.slice A L c) ∧ W.cell? ⟨w.heap.size, 2, none⟩ = some (.int .i64 x)) (ds := [13]) z19 (by kernel_rfl) rfl rfl ⟨k0, k1, k2⟩ (fun hHeld => ?_)
 refine stq 0 6 z20 ?_
 refine stq 1 7 z21 ?_
 refine take_ (i := 2) (N := some 8) (v := ?_) (a' := ?_) z22 rfl rfl (by kernel_rfl) (fun _ _ _ h => h) (Or.inl ⟨by rfl, ?_⟩) hHeld ?_ ?_
 rotate_left
 ·rintro w' ⟨s0, s1, s2⟩; go_simp; try with_reducible rfl
 rotate_left
 ·simp only [Act.put, sA, sB, sC]; rfl
 refine stq 3 9 z23 ?_
 refine stq 4 10 z24 ?_
 refine take_ (i := 5) (N := some 11) (v := ?_) (a' := ?_) z25 rfl rfl (by kernel_rfl) (fun _ _ _ h => h) (Or.inl ⟨by rfl, ?_⟩) hHeld ?_ ?_
 rotate_left
 ·rintro w' ⟨s0, s1, s2⟩; go_simp; try with_reducible rfl
 rotate_left
 ·simp only [Act.put, sA, sB, sC]; rfl
 refine stq 6 12 z26 ?_
 refine take_ (i := 7) (N := some 13) (v := ?_) (a' := ?_) z27 rfl rfl (by kernel_rfl) (fun _ _ _ h => h) (Or.inl ⟨by rfl, ?_⟩) hHeld ?_ ?_
 rotate_left
 ·rintro w' ⟨s0, s1, s2⟩; go_simp; try with_reducible rfl
 rotate_left
 ·simp only [Act.put, sA, sB, sC]; rfl
 refine one_ (i := 8) (N := some 14) z28 rfl rfl (by kernel_rfl) (by decide) (fun K hK => ?_)
 refine goes_ Tryz.func15 (by kernel_rfl) rfl #[.int .i64 x] (by rfl) rfl rfl (by first | rfl | simp [Act.eval]) ?_
 refine (pow10_any W0.drew x hx).mono ?_
 rintro e w1 ⟨r1, rfl, hr1, hb1⟩
 have hb1 : Below W0.heap.size W0 w1 := ⟨hb1.os, hb1.tape, hb1.output, hb1.size, hb1.block⟩
 have z1 := hb1.size
 have b01 := (hb1.block _ (by omega)).trans b0
 have b11 := (hb1.block _ (by omega)).trans b1
 have gw10 : w1.cell? ⟨w.heap.size, 0, none⟩ = some (.bool neg) := by rw [cellOf b01]; rfl
 have gw11 : w1.cell? ⟨w.heap.size, 1, none⟩ = some (.slice A L c) := by rw [cellOf b01]; rfl
 have gw12 : w1.cell? ⟨w.heap.size, 2, none⟩ = some (.int .i64 x) := by rw [cellOf b01]; rfl
 refine ⟨_, rfl, ?_⟩
 refine hK.out _ _ ⟨gw10, gw11, gw12⟩ (fun hHeld => ?_)
 clear hK K
 refine norm_ (a' := ?_) ?_ ?_
 rotate_left
 ·simp only [Act.put, sA, sB, sC]; rfl
 refine one_ (i := 9) (N := some 15) z29 rfl rfl (by kernel_rfl) (by decide) (fun K hK => ?_)
 refine goes_ Tryz.func14 (by kernel_rfl) rfl #[.slice A L c, r1] (by rfl) rfl rfl (by first | rfl | simp [Act.eval]) ?_
 have hN1 := (hN.out.below hbel).below hb1
 refine (natMul_any hN1 hr1 1000 hl'.out (Nat.le_trans (digs_ten hx) (by omega)) (by omega)).mono ?_
 rintro e w2 ⟨r2, rfl, hr2, hb2⟩
 obtain ⟨A2, c2, rfl, hc2, hC2⟩ := hr2
 have hr2 : NatS w2 (.slice A2 (digs LB (n * 10 ^ x)).length c2) (n * 10 ^ x) := ⟨A2, c2, rfl, hc2, hC2⟩
 have z2 := hb2.size
 have b02 := (hb2.block _ (by omega)).trans b01
 have b12 := (hb2.block _ (by omega)).trans b11
 have gw20 : w2.cell? ⟨w.heap.size, 0, none⟩ = some (.bool neg) := by rw [cellOf b02]; rfl
 have gw21 : w2.cell? ⟨w.heap.size, 1, none⟩ = some (.slice A L c) := by rw [cellOf b02]; rfl
 have gw22 : w2.cell? ⟨w.heap.size, 2, none⟩ = some (.int .i64 x) := by rw [cellOf b02]; rfl
 refine ⟨_, rfl, ?_⟩
 refine hK.out _ _ ⟨gw20, gw21, gw22⟩ (fun hHeld => ?_)
 clear hK K
 refine norm_ (a' := ?_) ?_ ?_
 rotate_left
 ·simp only [Act.put, sA, sB, sC]; rfl
 refine one_ (i := 10) (N := some 16) z30 rfl rfl (by kernel_rfl) (by decide) (fun K hK => ?_)
 refine goes_ Tryz.func13 (by kernel_rfl) rfl #[.bool neg, .slice A2 (digs LB (n * 10 ^ x)).length c2] (by rfl) rfl rfl (by first | rfl | simp [Act.eval]) ?_
 refine (wholeOf_any w2 neg A2 (digs LB (n * 10 ^ x)).length c2).mono ?_
 rintro e w3 ⟨rfl, hb3⟩
 have z3 := hb3.size
 have hr3 := hr2.below hb3
 have b03 := (hb3.block _ (by omega)).trans b02
 have b13 := (hb3.block _ (by omega)).trans b12
 have gw30 : w3.cell? ⟨w.heap.size, 0, none⟩ = some (.bool neg) := by rw [cellOf b03]; rfl
 have gw31 : w3.cell? ⟨w.heap.size, 1, none⟩ = some (.slice A L c) := by rw [cellOf b03]; rfl
 have gw32 : w3.cell? ⟨w.heap.size, 2, none⟩ = some (.int .i64 x) := by rw [cellOf b03]; rfl
 refine ⟨_, rfl, ?_⟩
 refine hK.out _ _ ⟨gw30, gw31, gw32⟩ (fun hHeld => ?_)
 clear hK K
 refine norm_ (a' := ?_) ?_ ?_
 rotate_left
 ·simp only [Act.put, sA, sB, sC]; rfl
 refine one_ (i := 11) (N := some 17) z31 rfl rfl (by kernel_rfl) (by decide) (fun K hK => ?_)
 refine goes_ Tryz.func16 (by kernel_rfl) rfl #[] (by rfl) rfl rfl (by first | rfl | simp [Act.eval]) ?_
 refine (one_any w3).mono ?_
 rintro e w4 ⟨r4, rfl, hr4, hb4⟩
 have z4 := hb4.size
 have hr34 := hr3.below hb4
 obtain ⟨A4, c4, rfl, hc4, hC4⟩ := hr4
 have hr4 : NatS w4 (.slice A4 (digs LB 1).length c4) 1 := ⟨A4, c4, rfl, hc4, hC4⟩
 have b04 := (hb4.block _ (by omega)).trans b03
 have b14 := (hb4.block _ (by omega)).trans b13
 have f0 := frozenOf b14
 have e0 : w4.cell? ⟨w.heap.size + 1, 0, none⟩ = some (.bool false) := by rw [cellOf b14]; rfl
 have e1 : w4.cell? ⟨w.heap.size + 1, 1, none⟩ = some (.slice none 0 0) := by rw [cellOf b14]; rfl
 have e2 : w4.cell? ⟨w.heap.size + 1, 2, none⟩ = some (.slice none 0 0) := by rw [cellOf b14]; rfl
 have gw40 : w4.cell? ⟨w.heap.size, 0, none⟩ = some (.bool neg) := by rw [cellOf b04]; rfl
 have gw41 : w4.cell? ⟨w.heap.size, 1, none⟩ = some (.slice A L c) := by rw [cellOf b04]; rfl
 have gw42 : w4.cell? ⟨w.heap.size, 2, none⟩ = some (.int .i64 x) := by rw [cellOf b04]; rfl
 refine ⟨_, rfl, ?_⟩
 refine hK.out _ _ ⟨gw40, gw41, gw42⟩ (fun hHeld => ?_)
 clear hK K
 refine norm_ (a' := ?_) ?_ ?_
 rotate_left
 ·simp only [Act.put, sA, sB, sC]; rfl
 refine stq 12 18 z32 ?_
 refine last_ (i := 13) (N := none) z33 rfl rfl (by kernel_rfl) (by decide) (fun K hK => ?_)
 refine skip_ (w1 := ?_) (by rfl) rfl ?_ ?_
 rotate_left
 ·go_simp; try rfl
 refine hK.out _ _ ?_
 clear hK K
 refine done_ (by kernel_rfl) ?_
 go_wp2_with fail
 exact ⟨rfl, _, results_cell_row Tryz.results6 _ _ (w.heap.size + 1) 33 _ (0, 0) _ rfl (box3 b14 _ _ _) Tryz.underlying33 rfl (by kernel_rfl), _, _, by rw [posDec (n * 10 ^ x)],
  Reads.other hr34 b14 (noInt3 _ _ _ _ _ _ _ _) (put3_heap _ _ _ _ _), Reads.other hr4 b14 (noInt3 _ _ _ _ _ _ _ _) (put3_heap _ _ _ _ _), put3_below (below_then' (below_then' (below_then' (below_then' hbel hb1) hb2) hb3) hb4) (Nat.le_succ _) _ _ _⟩
set_option maxRecDepth 100000 in
theorem wholeMul_any {w : World} {u v : Value} {n m : Nat} (neg : Bool) (h : NatS w v n) (h' : NatS w u m) (hl : (digs LB n).length ≤ 1000) (hl' : (digs LB m).length ≤ 1000) :
  Calls Tryz.prog 54 #[.agg #[.bool neg, v], .agg #[.bool false, u]] w fun e w' => ∃ r, e = .returned (.agg #[.bool (neg && decide (n * m ≠ 0)), r]) ∧ NatS w' r (n * m) ∧ Below w.heap.size w w' := by
 have hN := Lib.hid h
 have hM := Lib.hid h'
 obtain ⟨A, c, rfl, hc, hr⟩ := h
 obtain ⟨B, d, rfl, hd, hs⟩ := h'
 clear hc hr hd hs
 have hl1 := Lib.hid hl
 have hl2 := Lib.hid hl'
 clear hl hl'
 generalize (digs LB n).length = L at hN ⊢
 generalize (digs LB m).length = J at hM ⊢
 obtain ⟨b0, b1, b2, hbel, hsz⟩ := three_boxes w (.cells #[.bool neg, .slice A L c] 29 (0, 0)) (.cells #[.bool false, .slice B J d] 29 (0, 0)) (.cells #[.bool false, .slice none 0 0] 29 (0, 0))
 go_enter Tryz.func54, Tryz.ntmps54
 go_wp2_with fail
 generalize ((w.alloc (.cells #[.bool neg, .slice A L c] 29 (0, 0))).alloc (.cells #[.bool false, .slice B J d] 29 (0, 0))).alloc (.cells #[.bool false, .slice none 0 0] 29 (0, 0)) = W0 at *
 have k0 : W0.cell? ⟨w.heap.size, 0, none⟩ = some (.bool neg) := by rw [cellOf b0]; rfl
 have k1 : W0.cell? ⟨w.heap.size, 1, none⟩ = some (.slice A L c) := by rw [cellOf b0]; rfl
 have k2 : W0.cell? ⟨w.heap.size + 1, 0, none⟩ = some (.bool false) := by rw [cellOf b1]; rfl
 have k3 : W0.cell? ⟨w.heap.size + 1, 1, none⟩ = some (.slice B J d) := by rw [cellOf b1]; rfl
 have hneg : (neg != false) = neg := by cases neg <;> rfl
 refine start_ (n := 12) (S := fun W => W.cell? ⟨w.heap.size, 0, none⟩ = some (.bool neg) ∧ W.cell? ⟨w.heap.size, 1, none⟩ = some (.slice A L c) ∧ W.cell? ⟨w.heap.size + 1, 0, none⟩ = some (.bool false) ∧ W.cell? ⟨w.heap.size + 1, 1, none⟩ = some (.slice B J d)) (ds := [11]) z220 (by kernel_rfl) rfl rfl ⟨k0, k1, k2, k3⟩ (fun hHeld => ?_)
 refine stq 0 5 z221 ?_
 refine take_ (i := 1) (N := some 6) (v := ?_) (a' := ?_) z222 rfl rfl (by kernel_rfl) (fun _ _ _ h => h) (Or.inl ⟨by rfl, ?_⟩) hHeld ?_ ?_
 rotate_left
 ·rintro w' ⟨s0, s1, s2, s3⟩; go_simp; try with_reducible rfl
 rotate_left
 ·simp only [Act.put, sA, sB, sC]; rfl
 refine stq 2 7 z223 ?_
 refine take_ (i := 3) (N := some 8) (v := ?_) (a' := ?_) z224 rfl rfl (by kernel_rfl) (fun _ _ _ h => h) (Or.inl ⟨by rfl, ?_⟩) hHeld ?_ ?_
 rotate_left
 ·rintro w' ⟨s0, s1, s2, s3⟩; go_simp; try with_reducible rfl
 rotate_left
 ·simp only [Act.put, sA, sB, sC]; rfl
 refine stq 4 9 z225 ?_
 refine stq 5 10 z226 ?_
 refine take_ (i := 6) (N := some 11) (v := ?_) (a' := ?_) z227 rfl rfl (by kernel_rfl) (fun _ _ _ h => h) (Or.inl ⟨by rfl, ?_⟩) hHeld ?_ ?_
 rotate_left
 ·rintro w' ⟨s0, s1, s2, s3⟩; go_simp; try with_reducible rfl
 rotate_left
 ·simp only [Act.put, sA, sB, sC]; rfl
 refine stq 7 12 z228 ?_
 refine take_ (i := 8) (N := some 13) (v := ?_) (a' := ?_) z229 rfl rfl (by kernel_rfl) (fun _ _ _ h => h) (Or.inl ⟨by rfl, ?_⟩) hHeld ?_ ?_
 rotate_left
 ·rintro w' ⟨s0, s1, s2, s3⟩; go_simp; try with_reducible rfl
 rotate_left
 ·simp only [Act.put, sA, sB, sC]; rfl
 refine one_ (i := 9) (N := some 14) z230 rfl rfl (by kernel_rfl) (by decide) (fun K hK => ?_)
 refine goes_ Tryz.func14 (by kernel_rfl) rfl #[.slice A L c, .slice B J d] (by rfl) rfl rfl (by first | rfl | simp [Act.eval]) ?_
 have hN1 : NatS W0.drew _ _ := (hN.out.below hbel.drew)
 have hM1 : NatS W0.drew _ _ := (hM.out.below hbel.drew)
 refine (natMul_any hN1 hM1 1000 hl1.out hl2.out (by omega)).mono ?_
 rintro e w1 ⟨r1, rfl, hr1, hb1⟩
 have hb1 : Below W0.heap.size W0 w1 := ⟨hb1.os, hb1.tape, hb1.output, hb1.size, hb1.block⟩
 have z1 := hb1.size
 obtain ⟨A2, c2, rfl, hc2, hC2⟩ := hr1
 have hr1 : NatS w1 (.slice A2 (digs LB (n * m)).length c2) (n * m) := ⟨A2, c2, rfl, hc2, hC2⟩
 have b01 := (hb1.block _ (by omega)).trans b0
 have b11 := (hb1.block _ (by omega)).trans b1
 have b21 := (hb1.block _ (by omega)).trans b2
 have gw10 : w1.cell? ⟨w.heap.size, 0, none⟩ = some (.bool neg) := by rw [cellOf b01]; rfl
 have gw11 : w1.cell? ⟨w.heap.size, 1, none⟩ = some (.slice A L c) := by rw [cellOf b01]; rfl
 have gw12 : w1.cell? ⟨w.heap.size + 1, 0, none⟩ = some (.bool false) := by rw [cellOf b11]; rfl
 have gw13 : w1.cell? ⟨w.heap.size + 1, 1, none⟩ = some (.slice B J d) := by rw [cellOf b11]; rfl
 refine ⟨_, rfl, ?_⟩
 refine hK.out _ _ ⟨gw10, gw11, gw12, gw13⟩ (fun hHeld => ?_)
 clear hK K
 refine norm_ (a' := ?_) ?_ ?_
 rotate_left
 ·simp only [Act.put, sA, sB, sC]; rfl
 refine one_ (i := 10) (N := some 15) z231 rfl rfl (by kernel_rfl) (by decide) (fun K hK => ?_)
 refine goes_ Tryz.func13 (by kernel_rfl) rfl #[.bool neg, .slice A2 (digs LB (n * m)).length c2] (by rfl) rfl rfl (by first | rfl | simp [Act.eval]) ?_
 refine (wholeOf_any w1 neg A2 (digs LB (n * m)).length c2).mono ?_
 rintro e w2 ⟨rfl, hb2⟩
 have z2 := hb2.size
 have hr2 := hr1.below hb2
 have b02 := (hb2.block _ (by omega)).trans b01
 have b12 := (hb2.block _ (by omega)).trans b11
 have b22 := (hb2.block _ (by omega)).trans b21
 have f0 := frozenOf b22
 have e0 : w2.cell? ⟨w.heap.size + 1 + 1, 0, none⟩ = some (.bool false) := by rw [cellOf b22]; rfl
 have e1 : w2.cell? ⟨w.heap.size + 1 + 1, 1, none⟩ = some (.slice none 0 0) := by rw [cellOf b22]; rfl
 have gw20 : w2.cell? ⟨w.heap.size, 0, none⟩ = some (.bool neg) := by rw [cellOf b02]; rfl
 have gw21 : w2.cell? ⟨w.heap.size, 1, none⟩ = some (.slice A L c) := by rw [cellOf b02]; rfl
 have gw22 : w2.cell? ⟨w.heap.size + 1, 0, none⟩ = some (.bool false) := by rw [cellOf b12]; rfl
 have gw23 : w2.cell? ⟨w.heap.size + 1, 1, none⟩ = some (.slice B J d) := by rw [cellOf b12]; rfl
 refine ⟨_, rfl, ?_⟩
 refine hK.out _ _ ⟨gw20, gw21, gw22, gw23⟩ (fun hHeld => ?_)
 clear hK K
 refine norm_ (a' := ?_) ?_ ?_
 rotate_left
 ·simp only [Act.put, sA, sB, sC]; rfl
 refine last_ (i := 11) (N := none) z232 rfl rfl (by kernel_rfl) (by decide) (fun K hK => ?_)
 refine skip_ (w1 := ?_) (by rfl) rfl ?_ ?_
 rotate_left
 ·go_simp; try rfl
 refine hK.out _ _ ?_
 clear hK K
 refine done_ (by kernel_rfl) ?_
 go_wp2_with fail
 exact ⟨rfl, _, results_cell_row Tryz.results54 _ _ (w.heap.size + 1 + 1) 29 _ (0, 0) _ rfl (box2 b22 _ _) Tryz.underlying29 rfl (by kernel_rfl), _, by rw [posDec (n * m)],
  Reads.other hr2 b22 (noInt2 _ _ _ _ _) (put2_heap _ _ _ _), put2_below (below_then' (below_then' hbel hb1) hb2) (by omega) _ _⟩
end Go.Proofs.YtgamldefngehlaaGreatDoor
