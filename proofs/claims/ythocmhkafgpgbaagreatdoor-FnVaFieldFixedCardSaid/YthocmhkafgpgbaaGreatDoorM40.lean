/- Parts of the walk. -/
import Derived.Test.YthocmhkafgpgbaaGreatDoorM10
import Derived.Test.YthocmhkafgpgbaaGreatDoorM36
set_option linter.unusedVariables false
set_option linter.unusedSimpArgs false
namespace Go.Proofs.YthocmhkafgpgbaaGreatDoor
open Go.RowKit Go.Proofs.YthocmhkafgpgbaaGreatDoorW.PrintWords Go.Proofs.YthocmhkafgpgbaaGreatDoorW.PrintMore Go.Proofs.YthocmhkafgpgbaaGreatDoorW.PrintLast
theorem box3 {w : World} {b : Nat} {x0 x1 x2 : Value} {t : TypeId} (h : w.heap[b]? = some (.cells #[x0, x1, x2] t (0, 0))) (y0 y1 y2 : Value) : (((w.setCell ⟨b, 0, none⟩ y0).setCell ⟨b, 1, none⟩ y1).setCell ⟨b, 2, none⟩ y2).heap[b]? = some (.cells #[y0, y1, y2] t (0, 0)) :=
 blk_setCell (blk_setCell (blk_setCell h 0 y0) 1 y1) 2 y2
theorem two_boxes (w : World) (o1 o2 : Obj) : ((w.alloc o1).alloc o2).heap[w.heap.size]? = some o1 ∧ ((w.alloc o1).alloc o2).heap[w.heap.size + 1]? = some o2 ∧ Below w.heap.size w ((w.alloc o1).alloc o2) ∧ ((w.alloc o1).alloc o2).heap.size = w.heap.size + 2 := by
 have hs : (w.alloc o1).heap.size = w.heap.size + 1 := by simp
 refine ⟨blk_alloc (blk_new _ _) _, ?_, ((Below.refl _ w).alloc (Nat.le_refl _) _).alloc (by omega) _, by simp⟩
 have := blk_new (w.alloc o1) o2
 rw [hs] at this
 exact this
theorem Reads.other {k : IntKind} {w w' : World} {v : Value} {xs : List Nat} {b : Nat} {cs : Array Value} {t : TypeId} (h : Reads k w v xs) (hb : w.heap[b]? = some (.cells cs t (0, 0))) (hcs : ∀ (j : Nat) (x : Int), cs[j]? ≠ some (Value.int k x)) (hw : ∀ j, j ≠ b → w'.heap[j]? = w.heap[j]?) : Reads k w' v xs := by
 obtain ⟨A, c, rfl, hc, h1, h2, h3⟩ := h
 refine ⟨A, c, rfl, hc, h1, h2, fun hn => ?_⟩
 obtain ⟨ad, e, hcell⟩ := h3 hn
 refine ⟨ad, e, fun j p hp => ?_⟩
 obtain ⟨cc, hl, hk, hx⟩ := hcell j p hp
 refine ⟨cc, hl, hk, fun i u hu => ?_⟩
 have hh := hx i u hu
 have hu2 : u = .int k p := by
  have hk' : cc = [.int k p] := hk
  rw [hk'] at hu
  cases i with
  | zero => simpa using hu.symm
  | succ i => simp at hu
 have hsp := World.cell?_spot hh
 generalize ad.add (j * (Kd.int k).sz + i) = q at *
 obtain ⟨qb, qo, qs⟩ := q
 simp only at hsp
 subst hsp
 by_cases hq : qb = b
 ·subst hq
  rw [cellOf hb, hu2] at hh
  exact absurd hh (hcs qo p)
 ·exact (World.cell?_of_block (hw qb hq)).trans hh
theorem put3_heap (w : World) (b : Nat) (y0 y1 y2 : Value) (j : Nat) (h : j ≠ b) : (((w.setCell ⟨b, 0, none⟩ y0).setCell ⟨b, 1, none⟩ y1).setCell ⟨b, 2, none⟩ y2).heap[j]? = w.heap[j]? :=
 (Below.heap_setCell _ _ _ _ h).trans ((Below.heap_setCell _ _ _ _ h).trans (Below.heap_setCell _ _ _ _ h))
theorem put2_heap (w : World) (b : Nat) (y0 y1 : Value) (j : Nat) (h : j ≠ b) : ((w.setCell ⟨b, 0, none⟩ y0).setCell ⟨b, 1, none⟩ y1).heap[j]? = w.heap[j]? :=
 (Below.heap_setCell _ _ _ _ h).trans (Below.heap_setCell _ _ _ _ h)
theorem put3_below {w w1 : World} {b : Nat} (h : Below w.heap.size w w1) (hb : w.heap.size ≤ b) (y0 y1 y2 : Value) : Below w.heap.size w (((w1.setCell ⟨b, 0, none⟩ y0).setCell ⟨b, 1, none⟩ y1).setCell ⟨b, 2, none⟩ y2) :=
 ((h.setCell hb _).setCell hb _).setCell hb _
theorem put2_below {w w1 : World} {b : Nat} (h : Below w.heap.size w w1) (hb : w.heap.size ≤ b) (y0 y1 : Value) : Below w.heap.size w ((w1.setCell ⟨b, 0, none⟩ y0).setCell ⟨b, 1, none⟩ y1) :=
 (h.setCell hb _).setCell hb _
theorem noInt3 (k : IntKind) (b : Bool) (A B : Option Addr) (n m c d : Nat) : ∀ (j : Nat) (x : Int), (#[Value.bool b, .slice A n c, .slice B m d] : Array Value)[j]? ≠ some (Value.int k x) := by
 intro j x
 match j with
 | 0 => simp
 | 1 => simp
 | 2 => simp
 | j + 3 => simp
theorem noInt2 (k : IntKind) (b : Bool) (A : Option Addr) (n c : Nat) : ∀ (j : Nat) (x : Int), (#[Value.bool b, .slice A n c] : Array Value)[j]? ≠ some (Value.int k x) := by
 intro j x
 match j with
 | 0 => simp
 | 1 => simp
 | j + 2 => simp
theorem below_then' {w w1 w2 : World} (h : Below w.heap.size w w1) (k : Below w1.heap.size w1 w2) : Below w.heap.size w w2 := h.trans (k.mono h.size)
set_option maxRecDepth 100000 in
theorem decFrac1_any {w : World} {v : Value} {n s : Nat} (neg : Bool) (h : NatS w v n) (hs : 0 < s) (hs2 : s ≤ 15) :
  Calls Tryz.prog 6 #[.agg #[.bool neg, v, .int .i64 (-(s : Int))]] w fun e w' => ∃ r, e = .returned (.agg #[.bool neg, v, r]) ∧ NatS w' r (10 ^ s) ∧ Below w.heap.size w w' := by
 obtain ⟨A, c, rfl, hc, hr⟩ := h
 clear hc hr
 generalize (digs LB n).length = L
 have c1 : ¬ (0 : Int) ≤ -(s : Int) := by omega
 have hw : IntKind.i64.wrap (s : Int) = (s : Int) := by simp [IntKind.wrap, IntKind.bits, IntKind.signed]; omega
 obtain ⟨b0, b1, hbel, hsz⟩ := two_boxes w (.cells #[.bool neg, .slice A L c, .int .i64 (-(s : Int))] 36 (0, 0)) (.cells #[.bool false, .slice none 0 0, .slice none 0 0] 34 (0, 0))
 have hw' := Lib.hid hw
 clear hw
 go_enter Tryz.func6, Tryz.ntmps6
 go_wp2_with fail
 generalize (w.alloc (.cells #[.bool neg, .slice A L c, .int .i64 (-(s : Int))] 36 (0, 0))).alloc (.cells #[.bool false, .slice none 0 0, .slice none 0 0] 34 (0, 0)) = W0 at *
 have k0 : W0.cell? ⟨w.heap.size, 0, none⟩ = some (.bool neg) := by rw [cellOf b0]; rfl
 have k1 : W0.cell? ⟨w.heap.size, 1, none⟩ = some (.slice A L c) := by rw [cellOf b0]; rfl
 have k2 : W0.cell? ⟨w.heap.size, 2, none⟩ = some (.int .i64 (-(s : Int))) := by rw [cellOf b0]; rfl
 have hw2 := hw'.out
 refine start_ (n := 8) (S := fun W => W.cell? ⟨w.heap.size, 0, none⟩ = some (.bool neg) ∧ W.cell? ⟨w.heap.size, 1, none⟩ = some (.slice A L c) ∧ W.cell? ⟨w.heap.size, 2, none⟩ = some (.int .i64 (-(s : Int)))) (ds := [7]) z199 (by kernel_rfl) rfl rfl ⟨k0, k1, k2⟩ (fun hHeld => ?_)
 refine pure_ (i := 0) (N := some 19) (v := ?_) (a' := ?_) z200 rfl rfl (by kernel_rfl) (fun _ _ _ h => h) (Or.inl ⟨by rfl, ?_⟩) ?_ ?_
 rotate_left
 ·intro w'; go_simp; try with_reducible rfl
 rotate_left
 ·simp only [Act.put, sA, sB, sC]; rfl
 refine take_ (i := 1) (N := some 20) (v := ?_) (a' := ?_) z262 rfl rfl (by kernel_rfl) (fun _ _ _ h => h) (Or.inl ⟨by rfl, ?_⟩) hHeld ?_ ?_
 rotate_left
 ·rintro w' ⟨s0, s1, s2⟩; go_simp; try with_reducible rfl
 rotate_left
 ·simp only [Act.put, sA, sB, sC]; rfl
 refine pure_ (i := 2) (N := some 21) (v := ?_) (a' := ?_) z263 rfl rfl (by kernel_rfl) (fun _ _ _ h => h) (Or.inl ⟨by rfl, ?_⟩) ?_ ?_
 rotate_left
 ·intro w'; go_simp; try with_reducible rfl
 rotate_left
 ·simp only [Act.put, sA, sB, sC]; rfl
 refine take_ (i := 3) (N := some 22) (v := ?_) (a' := ?_) z264 rfl rfl (by kernel_rfl) (fun _ _ _ h => h) (Or.inl ⟨by rfl, ?_⟩) hHeld ?_ ?_
 rotate_left
 ·rintro w' ⟨s0, s1, s2⟩; go_simp; try with_reducible rfl
 rotate_left
 ·simp only [Act.put, sA, sB, sC]; rfl
 refine pure_ (i := 4) (N := some 23) (v := ?_) (a' := ?_) z204 rfl rfl (by kernel_rfl) (fun _ _ _ h => h) (Or.inl ⟨by rfl, ?_⟩) ?_ ?_
 rotate_left
 ·intro w'; go_simp; try with_reducible rfl
 rotate_left
 ·simp only [Act.put, sA, sB, sC]; rfl
 refine one_ (i := 5) (N := some 24) z205 rfl rfl (by kernel_rfl) (by decide) (fun K hK => ?_)
 refine goes_ Tryz.func15 (by kernel_rfl) rfl #[.int .i64 s] (by rfl) rfl rfl (by first | rfl | simp [Act.eval]) ?_
 refine (pow10_any W0.drew s hs2).mono ?_
 rintro e w1 ⟨r, rfl, hr, hb⟩
 have hb : Below W0.heap.size W0 w1 := ⟨hb.os, hb.tape, hb.output, hb.size, hb.block⟩
 obtain ⟨A2, c2, rfl, hc2, hr2⟩ := hr
 have b2 := (hb.block _ (by omega)).trans b1
 have f0 := frozenOf b2
 have e0 : w1.cell? ⟨w.heap.size + 1, 0, none⟩ = some (.bool false) := by rw [cellOf b2]; rfl
 have e1 : w1.cell? ⟨w.heap.size + 1, 1, none⟩ = some (.slice none 0 0) := by rw [cellOf b2]; rfl
 have e2 : w1.cell? ⟨w.heap.size + 1, 2, none⟩ = some (.slice none 0 0) := by rw [cellOf b2]; rfl
 have b3 := (hb.block _ (by omega)).trans b0
 have g0 : w1.cell? ⟨w.heap.size, 0, none⟩ = some (.bool neg) := by rw [cellOf b3]; rfl
 have g1 : w1.cell? ⟨w.heap.size, 1, none⟩ = some (.slice A L c) := by rw [cellOf b3]; rfl
 have g2 : w1.cell? ⟨w.heap.size, 2, none⟩ = some (.int .i64 (-(s : Int))) := by rw [cellOf b3]; rfl
 refine ⟨_, rfl, ?_⟩
 refine hK.out _ _ ⟨g0, g1, g2⟩ (fun hHeld => ?_)
 clear hK K
 refine norm_ (a' := ?_) ?_ ?_
 rotate_left
 ·simp only [Act.put, sA, sB, sC]; rfl
 refine pure_ (i := 6) (N := some 25) (v := ?_) (a' := ?_) z206 rfl rfl (by kernel_rfl) (fun _ _ _ h => h) (Or.inl ⟨by rfl, ?_⟩) ?_ ?_
 rotate_left
 ·intro w'; go_simp; try with_reducible rfl
 rotate_left
 ·simp only [Act.put, sA, sB, sC]; rfl
 refine last_ (i := 7) (N := none) z207 rfl rfl (by kernel_rfl) (by decide) (fun K hK => ?_)
 refine skip_ (w1 := ?_) (by rfl) rfl ?_ ?_
 rotate_left
 ·go_simp; try rfl
 refine hK.out _ _ ?_
 clear hK K
 refine done_ (by kernel_rfl) ?_
 go_wp2_with fail
 exact ⟨rfl, _, results_cell_row Tryz.results6 _ _ (w.heap.size + 1) 34 _ (0, 0) _ rfl (box3 b2 _ _ _) Tryz.underlying34 rfl (by kernel_rfl), _, rfl,
  Reads.other ⟨A2, c2, rfl, hc2, hr2⟩ b2 (noInt3 _ _ _ _ _ _ _ _) (put3_heap _ _ _ _ _), put3_below (below_then' hbel hb) (Nat.le_succ _) _ _ _⟩
end Go.Proofs.YthocmhkafgpgbaaGreatDoor
namespace Go.Proofs.YthocmhkafgpgbaaGreatDoor
open Go.RowKit Go.Proofs.YthocmhkafgpgbaaGreatDoorW.PrintWords Go.Proofs.YthocmhkafgpgbaaGreatDoorW.PrintMore Go.Proofs.YthocmhkafgpgbaaGreatDoorW.PrintLast
theorem len_one (M : Nat) (h : 1 ≤ M) : (digs LB 1).length ≤ M := by rw [digs_small LB_one (by omega) (by rw [LB_eq]; omega)]; exact h
theorem posDec (n : Nat) : decide (0 < (digs LB n).length) = decide (n ≠ 0) := decide_eq_decide.2 (digs_len_pos LB_one)
theorem three_boxes (w : World) (o1 o2 o3 : Obj) : (((w.alloc o1).alloc o2).alloc o3).heap[w.heap.size]? = some o1 ∧ (((w.alloc o1).alloc o2).alloc o3).heap[w.heap.size + 1]? = some o2 ∧ (((w.alloc o1).alloc o2).alloc o3).heap[w.heap.size + 1 + 1]? = some o3 ∧ Below w.heap.size w (((w.alloc o1).alloc o2).alloc o3) ∧ (((w.alloc o1).alloc o2).alloc o3).heap.size = w.heap.size + 3 := by
 obtain ⟨h0, h1, h2, h3⟩ := two_boxes w o1 o2
 refine ⟨blk_alloc h0 _, blk_alloc h1 _, ?_, h2.alloc (by omega) _, by simp⟩
 have := blk_new ((w.alloc o1).alloc o2) o3
 rw [h3] at this
 exact this
set_option maxRecDepth 100000 in
theorem decFrac0_any {w : World} {v : Value} {n : Nat} (neg : Bool) (h : NatS w v n) (hl : (digs LB n).length ≤ 1000) :
  Calls Tryz.prog 6 #[.agg #[.bool neg, v, .int .i64 0]] w fun e w' => ∃ r s, e = .returned (.agg #[.bool (neg && decide (n ≠ 0)), r, s]) ∧ NatS w' r n ∧ NatS w' s 1 ∧ Below w.heap.size w w' := by
 have hN := Lib.hid h
 obtain ⟨A, c, rfl, hc, hr⟩ := h
 clear hc hr
 have hl' := Lib.hid hl
 have hpos := Lib.hid (digs_len_pos LB_one (n := n))
 clear hl
 obtain ⟨L, hL⟩ : ∃ L, L = (digs LB n).length := ⟨_, rfl⟩
 rw [← hL] at hN hpos ⊢
 clear hL
 obtain ⟨b0, b1, hbel, hsz⟩ := two_boxes w (.cells #[.bool neg, .slice A L c, .int .i64 0] 36 (0, 0)) (.cells #[.bool false, .slice none 0 0, .slice none 0 0] 34 (0, 0))
 go_enter Tryz.func6, Tryz.ntmps6
 go_wp2_with fail
 generalize (w.alloc (.cells #[.bool neg, .slice A L c, .int .i64 0] 36 (0, 0))).alloc (.cells #[.bool false, .slice none 0 0, .slice none 0 0] 34 (0, 0)) = W0 at *
 have k0 : W0.cell? ⟨w.heap.size, 0, none⟩ = some (.bool neg) := by rw [cellOf b0]; rfl
 have k1 : W0.cell? ⟨w.heap.size, 1, none⟩ = some (.slice A L c) := by rw [cellOf b0]; rfl
 have k2 : W0.cell? ⟨w.heap.size, 2, none⟩ = some (.int .i64 0) := by rw [cellOf b0]; rfl
 refine start_ (n := 14) (S := fun W => W.cell? ⟨w.heap.size, 0, none⟩ = some (.bool neg) ∧ W.cell? ⟨w.heap.size, 1, none⟩ = some (.slice A L c) ∧ W.cell? ⟨w.heap.size, 2, none⟩ = some (.int .i64 0)) (ds := [13]) z18 (by kernel_rfl) rfl rfl ⟨k0, k1, k2⟩ (fun hHeld => ?_)
 refine pure_ (i := 0) (N := some 6) (v := ?_) (a' := ?_) z19 rfl rfl (by kernel_rfl) (fun _ _ _ h => h) (Or.inl ⟨by rfl, ?_⟩) ?_ ?_
 rotate_left
 ·intro w'; go_simp; try with_reducible rfl
 rotate_left
 ·simp only [Act.put, sA, sB, sC]; rfl
 refine pure_ (i := 1) (N := some 7) (v := ?_) (a' := ?_) z20 rfl rfl (by kernel_rfl) (fun _ _ _ h => h) (Or.inl ⟨by rfl, ?_⟩) ?_ ?_
 rotate_left
 ·intro w'; go_simp; try with_reducible rfl
 rotate_left
 ·simp only [Act.put, sA, sB, sC]; rfl
 refine take_ (i := 2) (N := some 8) (v := ?_) (a' := ?_) z21 rfl rfl (by kernel_rfl) (fun _ _ _ h => h) (Or.inl ⟨by rfl, ?_⟩) hHeld ?_ ?_
 rotate_left
 ·rintro w' ⟨s0, s1, s2⟩; go_simp; try with_reducible rfl
 rotate_left
 ·simp only [Act.put, sA, sB, sC]; rfl
 refine pure_ (i := 3) (N := some 9) (v := ?_) (a' := ?_) z22 rfl rfl (by kernel_rfl) (fun _ _ _ h => h) (Or.inl ⟨by rfl, ?_⟩) ?_ ?_
 rotate_left
 ·intro w'; go_simp; try with_reducible rfl
 rotate_left
 ·simp only [Act.put, sA, sB, sC]; rfl
 refine pure_ (i := 4) (N := some 10) (v := ?_) (a' := ?_) z23 rfl rfl (by kernel_rfl) (fun _ _ _ h => h) (Or.inl ⟨by rfl, ?_⟩) ?_ ?_
 rotate_left
 ·intro w'; go_simp; try with_reducible rfl
 rotate_left
 ·simp only [Act.put, sA, sB, sC]; rfl
 refine take_ (i := 5) (N := some 11) (v := ?_) (a' := ?_) z24 rfl rfl (by kernel_rfl) (fun _ _ _ h => h) (Or.inl ⟨by rfl, ?_⟩) hHeld ?_ ?_
 rotate_left
 ·rintro w' ⟨s0, s1, s2⟩; go_simp; try with_reducible rfl
 rotate_left
 ·simp only [Act.put, sA, sB, sC]; rfl
 refine pure_ (i := 6) (N := some 12) (v := ?_) (a' := ?_) z25 rfl rfl (by kernel_rfl) (fun _ _ _ h => h) (Or.inl ⟨by rfl, ?_⟩) ?_ ?_
 rotate_left
 ·intro w'; go_simp; try with_reducible rfl
 rotate_left
 ·simp only [Act.put, sA, sB, sC]; rfl
 refine take_ (i := 7) (N := some 13) (v := ?_) (a' := ?_) z26 rfl rfl (by kernel_rfl) (fun _ _ _ h => h) (Or.inl ⟨by rfl, ?_⟩) hHeld ?_ ?_
 rotate_left
 ·rintro w' ⟨s0, s1, s2⟩; go_simp; try with_reducible rfl
 rotate_left
 ·simp only [Act.put, sA, sB, sC]; rfl
 refine one_ (i := 8) (N := some 14) z27 rfl rfl (by kernel_rfl) (by decide) (fun K hK => ?_)
 refine goes_ Tryz.func15 (by kernel_rfl) rfl #[.int .i64 0] (by rfl) rfl rfl (by first | rfl | simp [Act.eval]) ?_
 have hP := pow10_any W0.drew 0 (by omega)
 rw [Nat.pow_zero] at hP
 refine (show Calls Tryz.prog 15 #[.int .i64 0] W0.drew _ from hP).mono ?_
 rintro e w1 ⟨r1, rfl, hr1, hb1⟩
 have hb1 : Below W0.heap.size W0 w1 := ⟨hb1.os, hb1.tape, hb1.output, hb1.size, hb1.block⟩
 have z1 := hb1.size
 have b01 := (hb1.block _ (by omega)).trans b0
 have b11 := (hb1.block _ (by omega)).trans b1
 have gw10 : w1.cell? ⟨w.heap.size, 0, none⟩ = some (.bool neg) := by rw [cellOf b01]; rfl
 have gw11 : w1.cell? ⟨w.heap.size, 1, none⟩ = some (.slice A L c) := by rw [cellOf b01]; rfl
 have gw12 : w1.cell? ⟨w.heap.size, 2, none⟩ = some (.int .i64 0) := by rw [cellOf b01]; rfl
 refine ⟨_, rfl, ?_⟩
 refine hK.out _ _ ⟨gw10, gw11, gw12⟩ (fun hHeld => ?_)
 clear hK K
 refine norm_ (a' := ?_) ?_ ?_
 rotate_left
 ·simp only [Act.put, sA, sB, sC]; rfl
 refine one_ (i := 9) (N := some 15) z28 rfl rfl (by kernel_rfl) (by decide) (fun K hK => ?_)
 refine goes_ Tryz.func14 (by kernel_rfl) rfl #[.slice A L c, r1] (by rfl) rfl rfl (by first | rfl | simp [Act.eval]) ?_
 have hN1 := (hN.out.below hbel).below hb1
 refine (natMul_any hN1 hr1 1000 hl'.out (len_one _ (by omega)) (by omega)).mono ?_
 rintro e w2 ⟨r2, rfl, hr2, hb2⟩
 rw [Nat.mul_one] at hr2
 obtain ⟨A2, c2, rfl, hc2, hC2⟩ := hr2
 have hr2 : NatS w2 (.slice A2 (digs LB n).length c2) n := ⟨A2, c2, rfl, hc2, hC2⟩
 have z2 := hb2.size
 have b02 := (hb2.block _ (by omega)).trans b01
 have b12 := (hb2.block _ (by omega)).trans b11
 have gw20 : w2.cell? ⟨w.heap.size, 0, none⟩ = some (.bool neg) := by rw [cellOf b02]; rfl
 have gw21 : w2.cell? ⟨w.heap.size, 1, none⟩ = some (.slice A L c) := by rw [cellOf b02]; rfl
 have gw22 : w2.cell? ⟨w.heap.size, 2, none⟩ = some (.int .i64 0) := by rw [cellOf b02]; rfl
 refine ⟨_, rfl, ?_⟩
 refine hK.out _ _ ⟨gw20, gw21, gw22⟩ (fun hHeld => ?_)
 clear hK K
 refine norm_ (a' := ?_) ?_ ?_
 rotate_left
 ·simp only [Act.put, sA, sB, sC]; rfl
 refine one_ (i := 10) (N := some 16) z29 rfl rfl (by kernel_rfl) (by decide) (fun K hK => ?_)
 refine goes_ Tryz.func13 (by kernel_rfl) rfl #[.bool neg, .slice A2 (digs LB n).length c2] (by rfl) rfl rfl (by first | rfl | simp [Act.eval]) ?_
 refine (wholeOf_any w2 neg A2 (digs LB n).length c2).mono ?_
 rintro e w3 ⟨rfl, hb3⟩
 have z3 := hb3.size
 have hr3 := hr2.below hb3
 have b03 := (hb3.block _ (by omega)).trans b02
 have b13 := (hb3.block _ (by omega)).trans b12
 have gw30 : w3.cell? ⟨w.heap.size, 0, none⟩ = some (.bool neg) := by rw [cellOf b03]; rfl
 have gw31 : w3.cell? ⟨w.heap.size, 1, none⟩ = some (.slice A L c) := by rw [cellOf b03]; rfl
 have gw32 : w3.cell? ⟨w.heap.size, 2, none⟩ = some (.int .i64 0) := by rw [cellOf b03]; rfl
 refine ⟨_, rfl, ?_⟩
 refine hK.out _ _ ⟨gw30, gw31, gw32⟩ (fun hHeld => ?_)
 clear hK K
 refine norm_ (a' := ?_) ?_ ?_
 rotate_left
 ·simp only [Act.put, sA, sB, sC]; rfl
 refine one_ (i := 11) (N := some 17) z30 rfl rfl (by kernel_rfl) (by decide) (fun K hK => ?_)
 refine goes_ Tryz.func16 (by kernel_rfl) rfl #[] (by rfl) rfl rfl (by first | rfl | simp [Act.eval]) ?_
 refine (one_any w3).mono ?_
 rintro e w4 ⟨r4, rfl, hr4, hb4⟩
 have z4 := hb4.size
 have hr34 := hr3.below hb4
 obtain ⟨A4, c4, rfl, hc4, hC4⟩ := hr4
 have hr4 : NatS w4 (.slice A4 (digs LB 1).length c4) 1 := ⟨A4, c4, rfl, hc4, hC4⟩
 have b04 := (hb4.block _ (by omega)).trans b03
 have b14 := (hb4.block _ (by omega)).trans b13
 have f0 := frozenOf b14
 have e0 : w4.cell? ⟨w.heap.size + 1, 0, none⟩ = some (.bool false) := by rw [cellOf b14]; rfl
 have e1 : w4.cell? ⟨w.heap.size + 1, 1, none⟩ = some (.slice none 0 0) := by rw [cellOf b14]; rfl
 have e2 : w4.cell? ⟨w.heap.size + 1, 2, none⟩ = some (.slice none 0 0) := by rw [cellOf b14]; rfl
 have gw40 : w4.cell? ⟨w.heap.size, 0, none⟩ = some (.bool neg) := by rw [cellOf b04]; rfl
 have gw41 : w4.cell? ⟨w.heap.size, 1, none⟩ = some (.slice A L c) := by rw [cellOf b04]; rfl
 have gw42 : w4.cell? ⟨w.heap.size, 2, none⟩ = some (.int .i64 0) := by rw [cellOf b04]; rfl
 refine ⟨_, rfl, ?_⟩
 refine hK.out _ _ ⟨gw40, gw41, gw42⟩ (fun hHeld => ?_)
 clear hK K
 refine norm_ (a' := ?_) ?_ ?_
 rotate_left
 ·simp only [Act.put, sA, sB, sC]; rfl
 refine pure_ (i := 12) (N := some 18) (v := ?_) (a' := ?_) z31 rfl rfl (by kernel_rfl) (fun _ _ _ h => h) (Or.inl ⟨by rfl, ?_⟩) ?_ ?_
 rotate_left
 ·intro w'; go_simp; try with_reducible rfl
 rotate_left
 ·simp only [Act.put, sA, sB, sC]; rfl
 refine last_ (i := 13) (N := none) z32 rfl rfl (by kernel_rfl) (by decide) (fun K hK => ?_)
 refine skip_ (w1 := ?_) (by rfl) rfl ?_ ?_
 rotate_left
 ·go_simp; try rfl
 refine hK.out _ _ ?_
 clear hK K
 refine done_ (by kernel_rfl) ?_
 go_wp2_with fail
 exact ⟨rfl, _, results_cell_row Tryz.results6 _ _ (w.heap.size + 1) 34 _ (0, 0) _ rfl (box3 b14 _ _ _) Tryz.underlying34 rfl (by kernel_rfl), _, _, by rw [posDec n],
  Reads.other hr34 b14 (noInt3 _ _ _ _ _ _ _ _) (put3_heap _ _ _ _ _), Reads.other hr4 b14 (noInt3 _ _ _ _ _ _ _ _) (put3_heap _ _ _ _ _), put3_below (below_then' (below_then' (below_then' (below_then' hbel hb1) hb2) hb3) hb4) (Nat.le_succ _) _ _ _⟩
set_option maxRecDepth 100000 in
theorem wholeMul_any {w : World} {u v : Value} {n m : Nat} (neg : Bool) (h : NatS w v n) (h' : NatS w u m) (hl : (digs LB n).length ≤ 1000) (hl' : (digs LB m).length ≤ 1000) :
  Calls Tryz.prog 57 #[.agg #[.bool neg, v], .agg #[.bool false, u]] w fun e w' => ∃ r, e = .returned (.agg #[.bool (neg && decide (n * m ≠ 0)), r]) ∧ NatS w' r (n * m) ∧ Below w.heap.size w w' := by
 have hN := Lib.hid h
 have hM := Lib.hid h'
 obtain ⟨A, c, rfl, hc, hr⟩ := h
 obtain ⟨B, d, rfl, hd, hs⟩ := h'
 clear hc hr hd hs
 have hl1 := Lib.hid hl
 have hl2 := Lib.hid hl'
 clear hl hl'
 generalize (digs LB n).length = L at hN ⊢
 generalize (digs LB m).length = J at hM ⊢
 obtain ⟨b0, b1, b2, hbel, hsz⟩ := three_boxes w (.cells #[.bool neg, .slice A L c] 30 (0, 0)) (.cells #[.bool false, .slice B J d] 30 (0, 0)) (.cells #[.bool false, .slice none 0 0] 30 (0, 0))
 go_enter Tryz.func57, Tryz.ntmps57
 go_wp2_with fail
 generalize ((w.alloc (.cells #[.bool neg, .slice A L c] 30 (0, 0))).alloc (.cells #[.bool false, .slice B J d] 30 (0, 0))).alloc (.cells #[.bool false, .slice none 0 0] 30 (0, 0)) = W0 at *
 have k0 : W0.cell? ⟨w.heap.size, 0, none⟩ = some (.bool neg) := by rw [cellOf b0]; rfl
 have k1 : W0.cell? ⟨w.heap.size, 1, none⟩ = some (.slice A L c) := by rw [cellOf b0]; rfl
 have k2 : W0.cell? ⟨w.heap.size + 1, 0, none⟩ = some (.bool false) := by rw [cellOf b1]; rfl
 have k3 : W0.cell? ⟨w.heap.size + 1, 1, none⟩ = some (.slice B J d) := by rw [cellOf b1]; rfl
 have hneg : (neg != false) = neg := by cases neg <;> rfl
 refine start_ (n := 12) (S := fun W => W.cell? ⟨w.heap.size, 0, none⟩ = some (.bool neg) ∧ W.cell? ⟨w.heap.size, 1, none⟩ = some (.slice A L c) ∧ W.cell? ⟨w.heap.size + 1, 0, none⟩ = some (.bool false) ∧ W.cell? ⟨w.heap.size + 1, 1, none⟩ = some (.slice B J d)) (ds := [11]) z151 (by kernel_rfl) rfl rfl ⟨k0, k1, k2, k3⟩ (fun hHeld => ?_)
 refine pure_ (i := 0) (N := some 5) (v := ?_) (a' := ?_) z265 rfl rfl (by kernel_rfl) (fun _ _ _ h => h) (Or.inl ⟨by rfl, ?_⟩) ?_ ?_
 rotate_left
 ·intro w'; go_simp; try with_reducible rfl
 rotate_left
 ·simp only [Act.put, sA, sB, sC]; rfl
 refine take_ (i := 1) (N := some 6) (v := ?_) (a' := ?_) z266 rfl rfl (by kernel_rfl) (fun _ _ _ h => h) (Or.inl ⟨by rfl, ?_⟩) hHeld ?_ ?_
 rotate_left
 ·rintro w' ⟨s0, s1, s2, s3⟩; go_simp; try with_reducible rfl
 rotate_left
 ·simp only [Act.put, sA, sB, sC]; rfl
 refine pure_ (i := 2) (N := some 7) (v := ?_) (a' := ?_) z267 rfl rfl (by kernel_rfl) (fun _ _ _ h => h) (Or.inl ⟨by rfl, ?_⟩) ?_ ?_
 rotate_left
 ·intro w'; go_simp; try with_reducible rfl
 rotate_left
 ·simp only [Act.put, sA, sB, sC]; rfl
 refine take_ (i := 3) (N := some 8) (v := ?_) (a' := ?_) z268 rfl rfl (by kernel_rfl) (fun _ _ _ h => h) (Or.inl ⟨by rfl, ?_⟩) hHeld ?_ ?_
 rotate_left
 ·rintro w' ⟨s0, s1, s2, s3⟩; go_simp; try with_reducible rfl
 rotate_left
 ·simp only [Act.put, sA, sB, sC]; rfl
 refine pure_ (i := 4) (N := some 9) (v := ?_) (a' := ?_) z269 rfl rfl (by kernel_rfl) (fun _ _ _ h => h) (Or.inl ⟨by rfl, ?_⟩) ?_ ?_
 rotate_left
 ·intro w'; go_simp; try with_reducible rfl
 rotate_left
 ·simp only [Act.put, sA, sB, sC]; rfl
 refine pure_ (i := 5) (N := some 10) (v := ?_) (a' := ?_) z270 rfl rfl (by kernel_rfl) (fun _ _ _ h => h) (Or.inl ⟨by rfl, ?_⟩) ?_ ?_
 rotate_left
 ·intro w'; go_simp; try with_reducible rfl
 rotate_left
 ·simp only [Act.put, sA, sB, sC]; rfl
 refine take_ (i := 6) (N := some 11) (v := ?_) (a' := ?_) z271 rfl rfl (by kernel_rfl) (fun _ _ _ h => h) (Or.inl ⟨by rfl, ?_⟩) hHeld ?_ ?_
 rotate_left
 ·rintro w' ⟨s0, s1, s2, s3⟩; go_simp; try with_reducible rfl
 rotate_left
 ·simp only [Act.put, sA, sB, sC]; rfl
 refine pure_ (i := 7) (N := some 12) (v := ?_) (a' := ?_) z272 rfl rfl (by kernel_rfl) (fun _ _ _ h => h) (Or.inl ⟨by rfl, ?_⟩) ?_ ?_
 rotate_left
 ·intro w'; go_simp; try with_reducible rfl
 rotate_left
 ·simp only [Act.put, sA, sB, sC]; rfl
 refine take_ (i := 8) (N := some 13) (v := ?_) (a' := ?_) z166 rfl rfl (by kernel_rfl) (fun _ _ _ h => h) (Or.inl ⟨by rfl, ?_⟩) hHeld ?_ ?_
 rotate_left
 ·rintro w' ⟨s0, s1, s2, s3⟩; go_simp; try with_reducible rfl
 rotate_left
 ·simp only [Act.put, sA, sB, sC]; rfl
 refine one_ (i := 9) (N := some 14) z168 rfl rfl (by kernel_rfl) (by decide) (fun K hK => ?_)
 refine goes_ Tryz.func14 (by kernel_rfl) rfl #[.slice A L c, .slice B J d] (by rfl) rfl rfl (by first | rfl | simp [Act.eval]) ?_
 have hN1 : NatS W0.drew _ _ := (hN.out.below hbel.drew)
 have hM1 : NatS W0.drew _ _ := (hM.out.below hbel.drew)
 refine (natMul_any hN1 hM1 1000 hl1.out hl2.out (by omega)).mono ?_
 rintro e w1 ⟨r1, rfl, hr1, hb1⟩
 have hb1 : Below W0.heap.size W0 w1 := ⟨hb1.os, hb1.tape, hb1.output, hb1.size, hb1.block⟩
 have z1 := hb1.size
 obtain ⟨A2, c2, rfl, hc2, hC2⟩ := hr1
 have hr1 : NatS w1 (.slice A2 (digs LB (n * m)).length c2) (n * m) := ⟨A2, c2, rfl, hc2, hC2⟩
 have b01 := (hb1.block _ (by omega)).trans b0
 have b11 := (hb1.block _ (by omega)).trans b1
 have b21 := (hb1.block _ (by omega)).trans b2
 have gw10 : w1.cell? ⟨w.heap.size, 0, none⟩ = some (.bool neg) := by rw [cellOf b01]; rfl
 have gw11 : w1.cell? ⟨w.heap.size, 1, none⟩ = some (.slice A L c) := by rw [cellOf b01]; rfl
 have gw12 : w1.cell? ⟨w.heap.size + 1, 0, none⟩ = some (.bool false) := by rw [cellOf b11]; rfl
 have gw13 : w1.cell? ⟨w.heap.size + 1, 1, none⟩ = some (.slice B J d) := by rw [cellOf b11]; rfl
 refine ⟨_, rfl, ?_⟩
 refine hK.out _ _ ⟨gw10, gw11, gw12, gw13⟩ (fun hHeld => ?_)
 clear hK K
 refine norm_ (a' := ?_) ?_ ?_
 rotate_left
 ·simp only [Act.put, sA, sB, sC]; rfl
 refine one_ (i := 10) (N := some 15) z156 rfl rfl (by kernel_rfl) (by decide) (fun K hK => ?_)
 refine goes_ Tryz.func13 (by kernel_rfl) rfl #[.bool neg, .slice A2 (digs LB (n * m)).length c2] (by rfl) rfl rfl (by first | rfl | simp [Act.eval]) ?_
 refine (wholeOf_any w1 neg A2 (digs LB (n * m)).length c2).mono ?_
 rintro e w2 ⟨rfl, hb2⟩
 have z2 := hb2.size
 have hr2 := hr1.below hb2
 have b02 := (hb2.block _ (by omega)).trans b01
 have b12 := (hb2.block _ (by omega)).trans b11
 have b22 := (hb2.block _ (by omega)).trans b21
 have f0 := frozenOf b22
 have e0 : w2.cell? ⟨w.heap.size + 1 + 1, 0, none⟩ = some (.bool false) := by rw [cellOf b22]; rfl
 have e1 : w2.cell? ⟨w.heap.size + 1 + 1, 1, none⟩ = some (.slice none 0 0) := by rw [cellOf b22]; rfl
 have gw20 : w2.cell? ⟨w.heap.size, 0, none⟩ = some (.bool neg) := by rw [cellOf b02]; rfl
 have gw21 : w2.cell? ⟨w.heap.size, 1, none⟩ = some (.slice A L c) := by rw [cellOf b02]; rfl
 have gw22 : w2.cell? ⟨w.heap.size + 1, 0, none⟩ = some (.bool false) := by rw [cellOf b12]; rfl
 have gw23 : w2.cell? ⟨w.heap.size + 1, 1, none⟩ = some (.slice B J d) := by rw [cellOf b12]; rfl
 refine ⟨_, rfl, ?_⟩
 refine hK.out _ _ ⟨gw20, gw21, gw22, gw23⟩ (fun hHeld => ?_)
 clear hK K
 refine norm_ (a' := ?_) ?_ ?_
 rotate_left
 ·simp only [Act.put, sA, sB, sC]; rfl
 refine last_ (i := 11) (N := none) z173 rfl rfl (by kernel_rfl) (by decide) (fun K hK => ?_)
 refine skip_ (w1 := ?_) (by rfl) rfl ?_ ?_
 rotate_left
 ·go_simp; try rfl
 refine hK.out _ _ ?_
 clear hK K
 refine done_ (by kernel_rfl) ?_
 go_wp2_with fail
 exact ⟨rfl, _, results_cell_row Tryz.results57 _ _ (w.heap.size + 1 + 1) 30 _ (0, 0) _ rfl (box2 b22 _ _) Tryz.underlying30 rfl (by kernel_rfl), _, by rw [posDec (n * m)],
  Reads.other hr2 b22 (noInt2 _ _ _ _ _) (put2_heap _ _ _ _), put2_below (below_then' (below_then' hbel hb1) hb2) (by omega) _ _⟩
end Go.Proofs.YthocmhkafgpgbaaGreatDoor
