/- Parts of the walk. -/
import Derived.Test.YtgamldefngehlaaGreatDoorM43
import Derived.Test.YtgamldefngehlaaGreatDoorM44
set_option linter.unusedVariables false
set_option linter.unusedSimpArgs false
namespace Go.Proofs.YtgamldefngehlaaGreatDoor
open Go.RowKit Go.Proofs.YtgamldefngehlaaGreatDoorW.PrintWords Go.Proofs.YtgamldefngehlaaGreatDoorW.PrintMore Go.Proofs.YtgamldefngehlaaGreatDoorW.PrintLast
set_option maxRecDepth 100000 in
theorem lawBig_core {w : World} {A : Option Addr} {L c : Nat} {xs : List Nat} (neg ok : Bool) (most : Nat) (hL : L = xs.length) (h : Reads .u8 w (.slice A L c) xs) (hb : ∀ x ∈ xs, x < 256) (hl : xs.length ≤ 2147483648) (hok : okW neg xs = ok) (le : Bool) (hle : decide ((L : Int) ≤ (most : Int)) = le) :
  Calls Tryz.prog 5 #[.agg #[.bool neg, .slice A L c], .int .i64 most] w fun e w' => ∃ r, e = .returned (.tuple #[.agg #[.bool neg, r], .bool (ok && le)]) ∧ NatS w' r (beVal xs) ∧ Below w.heap.size w w' := by
 have hV := Lib.hid (fun (W : World) (hW : Below w.heap.size w W) => vaWhole_any (w := W) neg (h.below hW) hb hl)
 have hok' := Lib.hid hok
 clear h hb hl hL hok
 obtain ⟨b0, b1, hbel, hsz⟩ := two_boxes w (.cells #[.bool neg, .slice A L c] 24 (0, 0)) (.cells #[.bool false, .slice none 0 0] 29 (0, 0))
 go_enter Tryz.func5, Tryz.ntmps5
 go_wp2_with fail
 generalize (w.alloc (.cells #[.bool neg, .slice A L c] 24 (0, 0))).alloc (.cells #[.bool false, .slice none 0 0] 29 (0, 0)) = W0 at *
 refine (hV.out W0 hbel).mono ?_
 rintro e w1 ⟨r1, rfl, hr1, hb1⟩
 rw [hok'.out]
 obtain ⟨A1, c1, rfl, hc1, hC1⟩ := hr1
 have hr1 : NatS w1 (.slice A1 (digs LB (beVal xs)).length c1) (beVal xs) := ⟨A1, c1, rfl, hc1, hC1⟩
 have z1 := hb1.size
 have b01 := (hb1.block _ (by omega)).trans b0
 have b11 := (hb1.block _ (by omega)).trans b1
 have b02 := blk_alloc b01 (.cells #[.bool neg, .slice A1 (digs LB (beVal xs)).length c1] 29 (0, 0))
 have b12 := blk_alloc b11 (.cells #[.bool neg, .slice A1 (digs LB (beVal xs)).length c1] 29 (0, 0))
 have b22 := blk_new w1 (.cells #[.bool neg, .slice A1 (digs LB (beVal xs)).length c1] 29 (0, 0))
 have hb2 : Below w1.heap.size w1 (w1.alloc (.cells #[.bool neg, .slice A1 (digs LB (beVal xs)).length c1] 29 (0, 0))) := (Below.refl _ w1).alloc (Nat.le_refl _) _
 obtain ⟨W2, hW2⟩ : ∃ x, x = w1.alloc (.cells #[.bool neg, .slice A1 (digs LB (beVal xs)).length c1] 29 (0, 0)) := ⟨_, rfl⟩
 rw [← hW2] at b02 b12 b22 hb2
 have hr2 := hr1.below hb2
 have f0 := frozenOf b12
 have e0 : W2.cell? ⟨w.heap.size + 1, 0, none⟩ = some (.bool false) := by rw [cellOf b12]; rfl
 have e1 : W2.cell? ⟨w.heap.size + 1, 1, none⟩ = some (.slice none 0 0) := by rw [cellOf b12]; rfl
 have g0 : W2.cell? ⟨w1.heap.size, 0, none⟩ = some (.bool neg) := by rw [cellOf b22]; rfl
 have g1 : W2.cell? ⟨w1.heap.size, 1, none⟩ = some (.slice A1 (digs LB (beVal xs)).length c1) := by rw [cellOf b22]; rfl
 have i1 : W2.cell? ⟨w.heap.size, 1, none⟩ = some (.slice A L c) := by rw [cellOf b02]; rfl
 subst hW2
 have hkey : ∀ (W : World) (y0 y1 : Value), (fun W => W.cell? ⟨w1.heap.size, 0, none⟩ = some (.bool neg) ∧ W.cell? ⟨w1.heap.size, 1, none⟩ = some (.slice A1 (digs LB (beVal xs)).length c1) ∧ W.cell? ⟨w.heap.size, 1, none⟩ = some (.slice A L c)) W → (fun W => W.cell? ⟨w1.heap.size, 0, none⟩ = some (.bool neg) ∧ W.cell? ⟨w1.heap.size, 1, none⟩ = some (.slice A1 (digs LB (beVal xs)).length c1) ∧ W.cell? ⟨w.heap.size, 1, none⟩ = some (.slice A L c)) ((W.setCell ⟨w.heap.size + 1, 0, none⟩ y0).setCell ⟨w.heap.size + 1, 1, none⟩ y1) := by
  intro W y0 y1 ⟨q0, q1, q2⟩
  have f : ∀ (b : Nat) (p : Addr), p.block = b → b ≠ w.heap.size + 1 → ((W.setCell ⟨w.heap.size + 1, 0, none⟩ y0).setCell ⟨w.heap.size + 1, 1, none⟩ y1).cell? p = W.cell? p := fun b p hp hne => World.cell?_of_block (put2_heap _ _ _ _ _ (by rw [hp]; exact hne))
  exact ⟨(f w1.heap.size _ rfl (by omega)).trans q0, (f w1.heap.size _ rfl (by omega)).trans q1, (f w.heap.size _ rfl (by omega)).trans q2⟩
 cases ok with
 | true =>
  go_wp2_with fail
  refine start_ (n := 11) (S := fun W => W.cell? ⟨w1.heap.size, 0, none⟩ = some (.bool neg) ∧ W.cell? ⟨w1.heap.size, 1, none⟩ = some (.slice A1 (digs LB (beVal xs)).length c1) ∧ W.cell? ⟨w.heap.size, 1, none⟩ = some (.slice A L c)) (ds := []) z238 (by kernel_rfl) rfl rfl ⟨g0, g1, i1⟩ (fun hHeld => ?_)
  refine take_ (i := 0) (N := some 13) (v := ?_) (a' := ?_) z239 rfl rfl (by kernel_rfl) (fun _ _ _ h => h) (Or.inl ⟨by rfl, ?_⟩) hHeld ?_ ?_
  rotate_left
  ·rintro w' ⟨s0, s1, s2⟩; go_simp; try with_reducible rfl
  rotate_left
  ·simp only [Act.put, sA, sB, sC]; rfl
  refine stq 1 14 z240 ?_
  refine stq 2 15 z241 ?_
  refine stq 3 16 z242 ?_
  refine take_ (i := 4) (N := some 17) (v := ?_) (a' := ?_) z243 rfl rfl (by kernel_rfl) (fun _ _ _ h => h) (Or.inl ⟨by rfl, ?_⟩) hHeld ?_ ?_
  rotate_left
  ·rintro w' ⟨s0, s1, s2⟩; go_simp; try with_reducible rfl
  rotate_left
  ·simp only [Act.put, sA, sB, sC]; rfl
  refine stq 5 18 z244 ?_
  refine stq 6 19 z245 ?_
  refine stq 7 20 z246 ?_
  refine stq 8 21 z247 ?_
  refine one_ (i := 9) (N := none) z248 rfl rfl (by kernel_rfl) (by decide) (fun K hK => ?_)
  refine skip_ (w1 := ?_) (by rfl) rfl ?_ ?_
  rotate_left
  ·go_simp; try rfl
  refine hK.out _ _ (hkey _ _ _ ⟨g0, g1, i1⟩) (fun hHeld => ?_)
  clear hK K
  refine stq 10 5 z249 ?_
  refine done_ (by kernel_rfl) ?_
  go_wp2_with fail
  exact ⟨rfl, _, results_ct Tryz.results5 _ _ (w.heap.size + 1) 29 _ (0, 0) _ rfl (box2 b12 _ _) Tryz.underlying29 rfl (by kernel_rfl), _, by rw [← hle]; simp,
   Reads.other hr2 b12 (noInt2 _ _ _ _ _) (put2_heap _ _ _ _), (put2_below (b := w.heap.size + 1) (below_then' (below_then' hbel hb1) hb2) (Nat.le_succ _) _ _).drew⟩
 | false =>
  go_wp2_with fail
  refine start_ (n := 11) (S := fun W => W.cell? ⟨w1.heap.size, 0, none⟩ = some (.bool neg) ∧ W.cell? ⟨w1.heap.size, 1, none⟩ = some (.slice A1 (digs LB (beVal xs)).length c1) ∧ W.cell? ⟨w.heap.size, 1, none⟩ = some (.slice A L c)) (ds := []) z238 (by kernel_rfl) rfl rfl ⟨g0, g1, i1⟩ (fun hHeld => ?_)
  refine take_ (i := 0) (N := some 13) (v := ?_) (a' := ?_) z239 rfl rfl (by kernel_rfl) (fun _ _ _ h => h) (Or.inl ⟨by rfl, ?_⟩) hHeld ?_ ?_
  rotate_left
  ·rintro w' ⟨s0, s1, s2⟩; go_simp; try with_reducible rfl
  rotate_left
  ·simp only [Act.put, sA, sB, sC]; rfl
  refine stq 1 14 z240 ?_
  refine stq 2 15 z241 ?_
  refine pure_ (i := 3) (N := some 16) (v := undef) (a' := ?_) z242 rfl rfl (by kernel_rfl) (fun _ _ _ h => h) (Or.inr ⟨by rfl, rfl⟩) ?_ ?_
  rotate_left
  ·simp only [Act.put, sA, sB, sC]; rfl
  refine pure_ (i := 4) (N := some 17) (v := undef) (a' := ?_) z243 rfl rfl (by kernel_rfl) (fun _ _ _ h => h) (Or.inr ⟨by rfl, rfl⟩) ?_ ?_
  rotate_left
  ·simp only [Act.put, sA, sB, sC]; rfl
  refine pure_ (i := 5) (N := some 18) (v := undef) (a' := ?_) z244 rfl rfl (by kernel_rfl) (fun _ _ _ h => h) (Or.inr ⟨by rfl, rfl⟩) ?_ ?_
  rotate_left
  ·simp only [Act.put, sA, sB, sC]; rfl
  refine pure_ (i := 6) (N := some 19) (v := undef) (a' := ?_) z245 rfl rfl (by kernel_rfl) (fun _ _ _ h => h) (Or.inr ⟨by rfl, rfl⟩) ?_ ?_
  rotate_left
  ·simp only [Act.put, sA, sB, sC]; rfl
  refine pure_ (i := 7) (N := some 20) (v := undef) (a' := ?_) z246 rfl rfl (by kernel_rfl) (fun _ _ _ h => h) (Or.inr ⟨by rfl, rfl⟩) ?_ ?_
  rotate_left
  ·simp only [Act.put, sA, sB, sC]; rfl
  refine stq 8 21 z247 ?_
  refine one_ (i := 9) (N := none) z248 rfl rfl (by kernel_rfl) (by decide) (fun K hK => ?_)
  refine skip_ (w1 := ?_) (by rfl) rfl ?_ ?_
  rotate_left
  ·go_simp; try rfl
  refine hK.out _ _ (hkey _ _ _ ⟨g0, g1, i1⟩) (fun hHeld => ?_)
  clear hK K
  refine stq 10 5 z249 ?_
  refine done_ (by kernel_rfl) ?_
  go_wp2_with fail
  exact ⟨rfl, _, results_ct Tryz.results5 _ _ (w.heap.size + 1) 29 _ (0, 0) _ rfl (box2 b12 _ _) Tryz.underlying29 rfl (by kernel_rfl), _, rfl,
   Reads.other hr2 b12 (noInt2 _ _ _ _ _) (put2_heap _ _ _ _), (put2_below (b := w.heap.size + 1) (below_then' (below_then' hbel hb1) hb2) (Nat.le_succ _) _ _).drew⟩
theorem lawBig_any {w : World} {v : Value} {xs : List Nat} (neg : Bool) (most : Nat) (h : Reads .u8 w v xs) (hb : ∀ x ∈ xs, x < 256) (hl : xs.length ≤ 2147483648) :
  Calls Tryz.prog 5 #[.agg #[.bool neg, v], .int .i64 most] w fun e w' => ∃ r, e = .returned (.tuple #[.agg #[.bool neg, r], .bool (okW neg xs && decide (xs.length ≤ most))]) ∧ NatS w' r (beVal xs) ∧ Below w.heap.size w w' := by
 have hr := h
 obtain ⟨A, c, rfl, hc, hC⟩ := h
 exact lawBig_core neg _ most rfl hr hb hl rfl _ (by simp)
end Go.Proofs.YtgamldefngehlaaGreatDoor
namespace Go.Proofs.YtgamldefngehlaaGreatDoor
open Go.RowKit Go.Proofs.YtgamldefngehlaaGreatDoorW.PrintWords Go.Proofs.YtgamldefngehlaaGreatDoorW.PrintMore Go.Proofs.YtgamldefngehlaaGreatDoorW.PrintLast
set_option maxRecDepth 100000 in
theorem fracCmp_any {w : World} {u v u' v' : Value} {n d n' d' : Nat} (neg : Bool) (h : NatS w v n) (hd : NatS w u d) (h' : NatS w v' n') (hd' : NatS w u' d') (l1 : (digs LB n).length ≤ 1000) (l2 : (digs LB d).length ≤ 1000) (l3 : (digs LB n').length ≤ 1000) (l4 : (digs LB d').length ≤ 1000) (l5 : (digs LB (n * d')).length ≤ 1000) (heq : n' * d = n * d') :
  Calls Tryz.prog 33 #[.agg #[.bool neg, v, u], .agg #[.bool neg, v', u']] w fun e w' => e = .returned (.int .i64 0) ∧ Below w.heap.size w w' := by
 have hN := Lib.hid h
 have hD := Lib.hid hd
 have hN' := Lib.hid h'
 have hD' := Lib.hid hd'
 obtain ⟨A, c, rfl, _, _⟩ := h
 obtain ⟨B, b, rfl, _, _⟩ := hd
 obtain ⟨A', c', rfl, _, _⟩ := h'
 obtain ⟨B', b', rfl, _, _⟩ := hd'
 have l1' := Lib.hid l1
 have l2' := Lib.hid l2
 have l3' := Lib.hid l3
 have l4' := Lib.hid l4
 have l5' := Lib.hid l5
 have heq' := Lib.hid heq
 clear l1 l2 l3 l4 l5 heq
 generalize (digs LB n).length = L1 at hN ⊢
 generalize (digs LB d).length = L2 at hD ⊢
 generalize (digs LB n').length = L3 at hN' ⊢
 generalize (digs LB d').length = L4 at hD' ⊢
 obtain ⟨b0, b1, hbel, hsz⟩ := two_boxes w (.cells #[.bool neg, .slice A L1 c, .slice B L2 b] 33 (0, 0)) (.cells #[.bool neg, .slice A' L3 c', .slice B' L4 b'] 33 (0, 0))
 go_enter Tryz.func33, Tryz.ntmps33
 go_wp2_with fail
 generalize (w.alloc (.cells #[.bool neg, .slice A L1 c, .slice B L2 b] 33 (0, 0))).alloc (.cells #[.bool neg, .slice A' L3 c', .slice B' L4 b'] 33 (0, 0)) = W0 at *
 have gW00 : W0.cell? ⟨w.heap.size, 0, none⟩ = some (.bool neg) := by rw [cellOf b0]; rfl
 have gW01 : W0.cell? ⟨w.heap.size, 1, none⟩ = some (.slice A L1 c) := by rw [cellOf b0]; rfl
 have gW02 : W0.cell? ⟨w.heap.size, 2, none⟩ = some (.slice B L2 b) := by rw [cellOf b0]; rfl
 have gW03 : W0.cell? ⟨w.heap.size + 1, 0, none⟩ = some (.bool neg) := by rw [cellOf b1]; rfl
 have gW04 : W0.cell? ⟨w.heap.size + 1, 1, none⟩ = some (.slice A' L3 c') := by rw [cellOf b1]; rfl
 have gW05 : W0.cell? ⟨w.heap.size + 1, 2, none⟩ = some (.slice B' L4 b') := by rw [cellOf b1]; rfl
 refine start_ (n := 14) (S := fun W => W.cell? ⟨w.heap.size, 0, none⟩ = some (.bool neg) ∧ W.cell? ⟨w.heap.size, 1, none⟩ = some (.slice A L1 c) ∧ W.cell? ⟨w.heap.size, 2, none⟩ = some (.slice B L2 b) ∧ W.cell? ⟨w.heap.size + 1, 0, none⟩ = some (.bool neg) ∧ W.cell? ⟨w.heap.size + 1, 1, none⟩ = some (.slice A' L3 c') ∧ W.cell? ⟨w.heap.size + 1, 2, none⟩ = some (.slice B' L4 b')) (ds := []) z19 (by kernel_rfl) rfl rfl ⟨gW00, gW01, gW02, gW03, gW04, gW05⟩ (fun hHeld => ?_)
 refine stq 0 5 z20 ?_
 refine take_ (i := 1) (N := some 6) (v := ?_) (a' := ?_) z21 rfl rfl (by kernel_rfl) (fun _ _ _ h => h) (Or.inl ⟨by rfl, ?_⟩) hHeld ?_ ?_
 rotate_left
 ·rintro w' ⟨s0, s1, s2, s3, s4, s5⟩; go_simp; try with_reducible rfl
 rotate_left
 ·simp only [Act.put, sA, sB, sC]; rfl
 refine stq 2 7 z22 ?_
 refine take_ (i := 3) (N := some 8) (v := ?_) (a' := ?_) z23 rfl rfl (by kernel_rfl) (fun _ _ _ h => h) (Or.inl ⟨by rfl, ?_⟩) hHeld ?_ ?_
 rotate_left
 ·rintro w' ⟨s0, s1, s2, s3, s4, s5⟩; go_simp; try with_reducible rfl
 rotate_left
 ·simp only [Act.put, sA, sB, sC]; rfl
 refine stq 4 9 z24 ?_
 refine stq 6 11 z233 ?_
 refine take_ (i := 7) (N := some 12) (v := ?_) (a' := ?_) z234 rfl rfl (by kernel_rfl) (fun _ _ _ h => h) (Or.inl ⟨by rfl, ?_⟩) hHeld ?_ ?_
 rotate_left
 ·rintro w' ⟨s0, s1, s2, s3, s4, s5⟩; go_simp; try with_reducible rfl
 rotate_left
 ·simp only [Act.put, sA, sB, sC]; rfl
 refine stq 8 13 z235 ?_
 refine take_ (i := 9) (N := some 14) (v := ?_) (a' := ?_) z236 rfl rfl (by kernel_rfl) (fun _ _ _ h => h) (Or.inl ⟨by rfl, ?_⟩) hHeld ?_ ?_
 rotate_left
 ·rintro w' ⟨s0, s1, s2, s3, s4, s5⟩; go_simp; try with_reducible rfl
 rotate_left
 ·simp only [Act.put, sA, sB, sC]; rfl
 refine stq 10 15 z237 ?_
 refine one_ (i := 5) (N := some 10) z30 rfl rfl (by kernel_rfl) (by decide) (fun K hK => ?_)
 refine goes_ Tryz.func54 (by kernel_rfl) rfl #[.agg #[.bool neg, .slice A L1 c], .agg #[.bool false, .slice B' L4 b']] (by rfl) rfl rfl (by first | rfl | simp [Act.eval]) ?_
 have x1 : NatS W0.drew _ _ := hN.out.below hbel.drew
 have x2 : NatS W0.drew _ _ := hD'.out.below hbel.drew
 refine (wholeMul_any neg x1 x2 l1'.out l4'.out).mono ?_
 rintro e w1 ⟨r1, rfl, hr1, hb1⟩
 have hb1 : Below W0.heap.size W0 w1 := ⟨hb1.os, hb1.tape, hb1.output, hb1.size, hb1.block⟩
 have z1 := hb1.size
 obtain ⟨A5, c5, rfl, hc5, hC5⟩ := hr1
 have hr1 : NatS w1 (.slice A5 (digs LB (n * d')).length c5) (n * d') := ⟨A5, c5, rfl, hc5, hC5⟩
 have b01 := (hb1.block _ (by omega)).trans b0
 have b11 := (hb1.block _ (by omega)).trans b1
 have gw10 : w1.cell? ⟨w.heap.size, 0, none⟩ = some (.bool neg) := by rw [cellOf b01]; rfl
 have gw11 : w1.cell? ⟨w.heap.size, 1, none⟩ = some (.slice A L1 c) := by rw [cellOf b01]; rfl
 have gw12 : w1.cell? ⟨w.heap.size, 2, none⟩ = some (.slice B L2 b) := by rw [cellOf b01]; rfl
 have gw13 : w1.cell? ⟨w.heap.size + 1, 0, none⟩ = some (.bool neg) := by rw [cellOf b11]; rfl
 have gw14 : w1.cell? ⟨w.heap.size + 1, 1, none⟩ = some (.slice A' L3 c') := by rw [cellOf b11]; rfl
 have gw15 : w1.cell? ⟨w.heap.size + 1, 2, none⟩ = some (.slice B' L4 b') := by rw [cellOf b11]; rfl
 refine ⟨_, rfl, ?_⟩
 refine hK.out _ _ ⟨gw10, gw11, gw12, gw13, gw14, gw15⟩ (fun hHeld => ?_)
 clear hK K
 refine norm_ (a' := ?_) ?_ ?_
 rotate_left
 ·simp only [Act.put, sA, sB, sC]; rfl
 refine one_ (i := 11) (N := some 16) z31 rfl rfl (by kernel_rfl) (by decide) (fun K hK => ?_)
 refine goes_ Tryz.func54 (by kernel_rfl) rfl #[.agg #[.bool neg, .slice A' L3 c'], .agg #[.bool false, .slice B L2 b]] (by rfl) rfl rfl (by first | rfl | simp [Act.eval]) ?_
 have x3 : NatS w1 _ _ := (hN'.out.below hbel).below hb1
 have x4 : NatS w1 _ _ := (hD.out.below hbel).below hb1
 refine (wholeMul_any neg x3 x4 l3'.out l2'.out).mono ?_
 rintro e w2 ⟨r2, rfl, hr2, hb2⟩
 rw [heq'.out] at hr2 ⊢
 have z2 := hb2.size
 have hr12 := hr1.below hb2
 obtain ⟨A6, c6, rfl, hc6, hC6⟩ := hr2
 have hr2 : NatS w2 (.slice A6 (digs LB (n * d')).length c6) (n * d') := ⟨A6, c6, rfl, hc6, hC6⟩
 have b02 := (hb2.block _ (by omega)).trans b01
 have b12 := (hb2.block _ (by omega)).trans b11
 have gw20 : w2.cell? ⟨w.heap.size, 0, none⟩ = some (.bool neg) := by rw [cellOf b02]; rfl
 have gw21 : w2.cell? ⟨w.heap.size, 1, none⟩ = some (.slice A L1 c) := by rw [cellOf b02]; rfl
 have gw22 : w2.cell? ⟨w.heap.size, 2, none⟩ = some (.slice B L2 b) := by rw [cellOf b02]; rfl
 have gw23 : w2.cell? ⟨w.heap.size + 1, 0, none⟩ = some (.bool neg) := by rw [cellOf b12]; rfl
 have gw24 : w2.cell? ⟨w.heap.size + 1, 1, none⟩ = some (.slice A' L3 c') := by rw [cellOf b12]; rfl
 have gw25 : w2.cell? ⟨w.heap.size + 1, 2, none⟩ = some (.slice B' L4 b') := by rw [cellOf b12]; rfl
 refine ⟨_, rfl, ?_⟩
 refine hK.out _ _ ⟨gw20, gw21, gw22, gw23, gw24, gw25⟩ (fun hHeld => ?_)
 clear hK K
 refine norm_ (a' := ?_) ?_ ?_
 rotate_left
 ·simp only [Act.put, sA, sB, sC]; rfl
 refine one_ (i := 12) (N := some 17) z32 rfl rfl (by kernel_rfl) (by decide) (fun K hK => ?_)
 refine goes_ Tryz.func55 (by kernel_rfl) rfl #[.agg #[.bool (neg && decide (n * d' ≠ 0)), .slice A5 (digs LB (n * d')).length c5], .agg #[.bool (neg && decide (n * d' ≠ 0)), .slice A6 (digs LB (n * d')).length c6]] (by rfl) rfl rfl (by first | rfl | simp [Act.eval]) ?_
 refine (wholeCmp_any (neg && decide (n * d' ≠ 0)) hr12 hr2 (by have := l5'.out; omega)).mono ?_
 rintro e w3 ⟨rfl, hb3⟩
 have z3 := hb3.size
 have b03 := (hb3.block _ (by omega)).trans b02
 have b13 := (hb3.block _ (by omega)).trans b12
 have gw30 : w3.cell? ⟨w.heap.size, 0, none⟩ = some (.bool neg) := by rw [cellOf b03]; rfl
 have gw31 : w3.cell? ⟨w.heap.size, 1, none⟩ = some (.slice A L1 c) := by rw [cellOf b03]; rfl
 have gw32 : w3.cell? ⟨w.heap.size, 2, none⟩ = some (.slice B L2 b) := by rw [cellOf b03]; rfl
 have gw33 : w3.cell? ⟨w.heap.size + 1, 0, none⟩ = some (.bool neg) := by rw [cellOf b13]; rfl
 have gw34 : w3.cell? ⟨w.heap.size + 1, 1, none⟩ = some (.slice A' L3 c') := by rw [cellOf b13]; rfl
 have gw35 : w3.cell? ⟨w.heap.size + 1, 2, none⟩ = some (.slice B' L4 b') := by rw [cellOf b13]; rfl
 refine ⟨_, rfl, ?_⟩
 refine hK.out _ _ ⟨gw30, gw31, gw32, gw33, gw34, gw35⟩ (fun hHeld => ?_)
 clear hK K
 refine norm_ (a' := ?_) ?_ ?_
 rotate_left
 ·simp only [Act.put, sA, sB, sC]; rfl
 refine stq 13 4 z33 ?_
 refine done_ (by kernel_rfl) ?_
 go_wp2_with fail
 go_ret
 exact ⟨rfl, below_then' (below_then' (below_then' hbel hb1) hb2) hb3⟩
set_option maxRecDepth 100000 in
theorem vaRat_any {w : World} {u v : Value} {xs ys : List Nat} (neg : Bool) (h : Reads .u8 w v xs) (h' : Reads .u8 w u ys) (hb : ∀ x ∈ xs, x < 256) (hb' : ∀ x ∈ ys, x < 256) (hl : xs.length ≤ 1000) (hl' : ys.length ≤ 1000) (hok : okW neg xs = true) (hy : beVal ys ≠ 0) :
  Calls Tryz.prog 32 #[.agg #[.bool neg, v, u]] w fun e w' => ∃ r s, e = .returned (.tuple #[.agg #[.bool neg, r, s], .bool true]) ∧ NatS w' r (beVal xs) ∧ NatS w' s (beVal ys) ∧ Below w.heap.size w w' := by
 have hR := Lib.hid h
 have hR' := Lib.hid h'
 obtain ⟨A, c, rfl, _, _⟩ := h
 obtain ⟨B, d, rfl, _, _⟩ := h'
 have h1 := Lib.hid hb
 have h2 := Lib.hid hb'
 have h3 := Lib.hid hl
 have h4 := Lib.hid hl'
 have h5 := Lib.hid hok
 have hpos := (digs_len_pos LB_one).2 hy
 clear hb hb' hl hl' hok hy
 generalize xs.length = L1 at hR ⊢
 generalize ys.length = L2 at hR' ⊢
 obtain ⟨b0, b1, hbel, hsz⟩ := two_boxes w (.cells #[.bool neg, .slice A L1 c, .slice B L2 d] 40 (0, 0)) (.cells #[.bool false, .slice none 0 0, .slice none 0 0] 33 (0, 0))
 go_enter Tryz.func32, Tryz.ntmps32
 go_wp2_with fail
 generalize (w.alloc (.cells #[.bool neg, .slice A L1 c, .slice B L2 d] 40 (0, 0))).alloc (.cells #[.bool false, .slice none 0 0, .slice none 0 0] 33 (0, 0)) = W0 at *
 refine (vaWhole_any neg (hR.out.below hbel) h1.out (by have := h3.out; omega)).mono ?_
 rintro e w1 ⟨r1, rfl, hr1, hb1⟩
 obtain ⟨A1, c1, rfl, hc1, hC1⟩ := hr1
 have hr1 : NatS w1 (.slice A1 (digs LB (beVal xs)).length c1) (beVal xs) := ⟨A1, c1, rfl, hc1, hC1⟩
 rw [h5.out]
 have b01 := (hb1.block _ (by omega)).trans b0
 have b11 := (hb1.block _ (by omega)).trans b1
 have b2 := blk_new w1 (.cells #[.bool neg, .slice A1 (digs LB (beVal xs)).length c1] 29 (0, 0))
 have hb2 : Below w1.heap.size w1 (w1.alloc (.cells #[.bool neg, .slice A1 (digs LB (beVal xs)).length c1] 29 (0, 0))) := (Below.refl _ w1).alloc (Nat.le_refl _) _
 have hz2 : (w1.alloc (.cells #[.bool neg, .slice A1 (digs LB (beVal xs)).length c1] 29 (0, 0))).heap.size = w1.heap.size + 1 := by simp
 have z1 := hb1.size
 have b02 := blk_alloc b01 (.cells #[.bool neg, .slice A1 (digs LB (beVal xs)).length c1] 29 (0, 0))
 have b12 := blk_alloc b11 (.cells #[.bool neg, .slice A1 (digs LB (beVal xs)).length c1] 29 (0, 0))
 have hr2 := hr1.below hb2
 have g2 : (w1.alloc (.cells #[.bool neg, .slice A1 (digs LB (beVal xs)).length c1] 29 (0, 0))).cell? ⟨w.heap.size, 2, none⟩ = some (.slice B L2 d) := by rw [cellOf b02]; rfl
 obtain ⟨W2, hW2⟩ : ∃ x, x = w1.alloc (.cells #[.bool neg, .slice A1 (digs LB (beVal xs)).length c1] 29 (0, 0)) := ⟨_, rfl⟩
 rw [← hW2] at b2 hb2 hz2 b02 b12 hr2 g2
 replace hW2 := Lib.hid hW2
 have g2' := g2
 rw [hW2.out] at g2'
 go_wp2_with fail
 rw [← hW2.out]
 refine (vaNat_any ((((hR'.out.below hbel).below hb1)).below hb2) h2.out (by have := h4.out; omega)).mono ?_
 rintro e w3 ⟨r3, rfl, hr3, hb3⟩
 obtain ⟨A3, c3, rfl, hc3, hC3⟩ := hr3
 have hr3 : NatS w3 (.slice A3 (digs LB (beVal ys)).length c3) (beVal ys) := ⟨A3, c3, rfl, hc3, hC3⟩
 have hr23 := hr2.below hb3
 have z3 := hb3.size
 have b23 := (hb3.block _ (by omega)).trans b2
 have b13 := (hb3.block _ (by omega)).trans b12
 have f0 := frozenOf b13
 have e0 : w3.cell? ⟨w.heap.size + 1, 0, none⟩ = some (.bool false) := by rw [cellOf b13]; rfl
 have e1 : w3.cell? ⟨w.heap.size + 1, 1, none⟩ = some (.slice none 0 0) := by rw [cellOf b13]; rfl
 have e2 : w3.cell? ⟨w.heap.size + 1, 2, none⟩ = some (.slice none 0 0) := by rw [cellOf b13]; rfl
 have i0 : w3.cell? ⟨w1.heap.size, 0, none⟩ = some (.bool neg) := by rw [cellOf b23]; rfl
 have i1 : w3.cell? ⟨w1.heap.size, 1, none⟩ = some (.slice A1 (digs LB (beVal xs)).length c1) := by rw [cellOf b23]; rfl
 have hlen : (0 : Int) < ((digs LB (beVal ys)).length : Int) := by omega
 clear g2 g2'
 go_wp2_with fail
 exact ⟨rfl, _, results_ct Tryz.results32 _ _ (w.heap.size + 1) 33 _ (0, 0) _ rfl (box3 b13 _ _ _) Tryz.underlying33 rfl (by kernel_rfl), _, _, rfl,
  Reads.other hr23 b13 (noInt3 _ _ _ _ _ _ _ _) (put3_heap _ _ _ _ _), Reads.other hr3 b13 (noInt3 _ _ _ _ _ _ _ _) (put3_heap _ _ _ _ _), put3_below (below_then' (below_then' (below_then' hbel hb1) hb2) hb3) (Nat.le_succ _) _ _ _⟩
set_option maxRecDepth 100000 in
theorem vaWorth_any {w : World} {u v u' v' : Value} {xs ys : List Nat} {n' d' : Nat} (neg : Bool) (h : Reads .u8 w v xs) (h' : Reads .u8 w u ys) (hb : ∀ x ∈ xs, x < 256) (hb' : ∀ x ∈ ys, x < 256) (hl : xs.length ≤ 1000) (hl' : ys.length ≤ 1000) (hok : okW neg xs = true) (hy : beVal ys ≠ 0)
  (hn : NatS w v' n') (hd : NatS w u' d') (l1 : (digs LB (beVal xs)).length ≤ 1000) (l2 : (digs LB (beVal ys)).length ≤ 1000) (l3 : (digs LB n').length ≤ 1000) (l4 : (digs LB d').length ≤ 1000) (l5 : (digs LB (beVal xs * d')).length ≤ 1000) (heq : n' * beVal ys = beVal xs * d') :
  Calls Tryz.prog 10 #[.agg #[.bool neg, v, u], .agg #[.bool neg, v', u']] w fun e w' => e = .returned (.bool true) ∧ Below w.heap.size w w' := by
 have hV := Lib.hid (fun (W : World) (hW : Below w.heap.size w W) => vaRat_any (w := W) neg (h.below hW) (h'.below hW) hb hb' hl hl' hok hy)
 have hN' := Lib.hid hn
 have hD' := Lib.hid hd
 obtain ⟨A, c, rfl, _, _⟩ := h
 obtain ⟨B, d, rfl, _, _⟩ := h'
 obtain ⟨A', c', rfl, _, _⟩ := hn
 obtain ⟨B', b', rfl, _, _⟩ := hd
 have hC := Lib.hid (fun (W : World) (v u v' u' : Value) (e1 : NatS W v (beVal xs)) (e2 : NatS W u (beVal ys)) (e3 : NatS W v' n') (e4 : NatS W u' d') => fracCmp_any neg e1 e2 e3 e4 l1 l2 l3 l4 l5 heq)
 clear hb hb' hl hl' hok hy l1 l2 l3 l4 l5 heq
 generalize xs.length = L1 at hV ⊢
 generalize ys.length = L2 at hV ⊢
 generalize (digs LB n').length = L3 at hN' ⊢
 generalize (digs LB d').length = L4 at hD' ⊢
 obtain ⟨b0, b1, hbel, hsz⟩ := two_boxes w (.cells #[.bool neg, .slice A L1 c, .slice B L2 d] 40 (0, 0)) (.cells #[.bool neg, .slice A' L3 c', .slice B' L4 b'] 33 (0, 0))
 go_enter Tryz.func10, Tryz.ntmps10
 go_wp2_with fail
 generalize (w.alloc (.cells #[.bool neg, .slice A L1 c, .slice B L2 d] 40 (0, 0))).alloc (.cells #[.bool neg, .slice A' L3 c', .slice B' L4 b'] 33 (0, 0)) = W0 at *
 refine (hV.out W0 hbel).mono ?_
 rintro e w1 ⟨r1, s1, rfl, hr1, hs1, hb1⟩
 have z1 := hb1.size
 obtain ⟨A1, c1, rfl, hc1, hC1⟩ := hr1
 have hr1 : NatS w1 (.slice A1 (digs LB (beVal xs)).length c1) (beVal xs) := ⟨A1, c1, rfl, hc1, hC1⟩
 obtain ⟨A2, c2, rfl, hc2, hC2⟩ := hs1
 have hs1 : NatS w1 (.slice A2 (digs LB (beVal ys)).length c2) (beVal ys) := ⟨A2, c2, rfl, hc2, hC2⟩
 have b01 := (hb1.block _ (by omega)).trans b0
 have b11 := (hb1.block _ (by omega)).trans b1
 obtain ⟨W2, hW2⟩ : ∃ x, x = w1.alloc (.cells #[.bool neg, .slice A1 (digs LB (beVal xs)).length c1, .slice A2 (digs LB (beVal ys)).length c2] 33 (0, 0)) := ⟨_, rfl⟩
 have b2 := blk_new w1 (.cells #[.bool neg, .slice A1 (digs LB (beVal xs)).length c1, .slice A2 (digs LB (beVal ys)).length c2] 33 (0, 0))
 have hb2 : Below w1.heap.size w1 (w1.alloc (.cells #[.bool neg, .slice A1 (digs LB (beVal xs)).length c1, .slice A2 (digs LB (beVal ys)).length c2] 33 (0, 0))) := (Below.refl _ w1).alloc (Nat.le_refl _) _
 have b12 := blk_alloc b11 (.cells #[.bool neg, .slice A1 (digs LB (beVal xs)).length c1, .slice A2 (digs LB (beVal ys)).length c2] 33 (0, 0))
 have i0 : (w1.alloc (.cells #[.bool neg, .slice A1 (digs LB (beVal xs)).length c1, .slice A2 (digs LB (beVal ys)).length c2] 33 (0, 0))).cell? ⟨w.heap.size + 1, 0, none⟩ = some (.bool neg) := by rw [cellOf b12]; rfl
 have i1 : (w1.alloc (.cells #[.bool neg, .slice A1 (digs LB (beVal xs)).length c1, .slice A2 (digs LB (beVal ys)).length c2] 33 (0, 0))).cell? ⟨w.heap.size + 1, 1, none⟩ = some (.slice A' L3 c') := by rw [cellOf b12]; rfl
 have i2 : (w1.alloc (.cells #[.bool neg, .slice A1 (digs LB (beVal xs)).length c1, .slice A2 (digs LB (beVal ys)).length c2] 33 (0, 0))).cell? ⟨w.heap.size + 1, 2, none⟩ = some (.slice B' L4 b') := by rw [cellOf b12]; rfl
 go_wp2_with fail
 rw [← hW2] at hb2 ⊢
 refine (hC.out W2 _ _ _ _ (hr1.below hb2) (hs1.below hb2) (((hN'.out.below hbel).below hb1).below hb2) (((hD'.out.below hbel).below hb1).below hb2)).mono ?_
 rintro e w3 ⟨rfl, hb3⟩
 go_wp2_with fail
 go_ret
 exact ⟨rfl, below_then' (below_then' (below_then' hbel hb1) hb2) hb3⟩
end Go.Proofs.YtgamldefngehlaaGreatDoor
