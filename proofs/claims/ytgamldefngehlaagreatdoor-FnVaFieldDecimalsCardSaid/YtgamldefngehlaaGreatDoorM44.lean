/- Whole numbers as the doors have them: VaWhole. -/
import Derived.Test.YtgamldefngehlaaGreatDoorM40
set_option linter.unusedVariables false
set_option linter.unusedSimpArgs false
namespace Go.Proofs.YtgamldefngehlaaGreatDoor
open Go.RowKit Go.Proofs.YtgamldefngehlaaGreatDoorW.PrintWords Go.Proofs.YtgamldefngehlaaGreatDoorW.PrintMore Go.Proofs.YtgamldefngehlaaGreatDoorW.PrintLast
set_option maxRecDepth 100000 in
theorem vaWhole_zt {w : World} {a : Option Addr} {c : Nat} (h : Reads .u8 w (.slice a 0 c) []) :
  Calls Tryz.prog 12 #[.agg #[.bool true, .slice a 0 c]] w fun e w' => ∃ r, e = .returned (.tuple #[.agg #[.bool true, r], .bool false]) ∧ NatS w' r (beVal []) ∧ Below w.heap.size w w' := by
 have hS := Lib.hid (fun (W : World) (hW : Below w.heap.size w W) => vaNat_any (w := W) (h.below hW) (fun _ h => by cases h) (by decide))
 clear h
 obtain ⟨b0, b1, hbel, hsz⟩ := two_boxes w (.cells #[.bool true, .slice a 0 c] 24 (0, 0)) (.cells #[.bool false, .slice none 0 0] 29 (0, 0))
 go_enter Tryz.func12, Tryz.ntmps12
 go_wp2_with fail
 generalize (w.alloc (.cells #[.bool true, .slice a 0 c] 24 (0, 0))).alloc (.cells #[.bool false, .slice none 0 0] 29 (0, 0)) = W0 at *
 have k0 : W0.cell? ⟨w.heap.size, 0, none⟩ = some (.bool true) := by rw [cellOf b0]; rfl
 have k1 : W0.cell? ⟨w.heap.size, 1, none⟩ = some (.slice a 0 c) := by rw [cellOf b0]; rfl
 have hkey : ∀ (W : World) (y0 y1 : Value), (fun W => W.cell? ⟨w.heap.size, 0, none⟩ = some (.bool true) ∧ W.cell? ⟨w.heap.size, 1, none⟩ = some (.slice a 0 c)) W → (fun W => W.cell? ⟨w.heap.size, 0, none⟩ = some (.bool true) ∧ W.cell? ⟨w.heap.size, 1, none⟩ = some (.slice a 0 c)) ((W.setCell ⟨w.heap.size + 1, 0, none⟩ y0).setCell ⟨w.heap.size + 1, 1, none⟩ y1) := by
  intro W y0 y1 ⟨q0, q1⟩
  have f : ∀ (b : Nat) (p : Addr), p.block = b → b ≠ w.heap.size + 1 → ((W.setCell ⟨w.heap.size + 1, 0, none⟩ y0).setCell ⟨w.heap.size + 1, 1, none⟩ y1).cell? p = W.cell? p := fun b p hp hne => World.cell?_of_block (put2_heap _ _ _ _ _ (by rw [hp]; exact hne))
  exact ⟨(f w.heap.size _ rfl (by omega)).trans q0, (f w.heap.size _ rfl (by omega)).trans q1⟩
 refine start_ (n := 30) (S := fun W => W.cell? ⟨w.heap.size, 0, none⟩ = some (.bool true) ∧ W.cell? ⟨w.heap.size, 1, none⟩ = some (.slice a 0 c)) (ds := []) z186 (by kernel_rfl) rfl rfl ⟨k0, k1⟩ (fun hHeld => ?_)
 refine stq 0 4 z187 ?_
 refine take_ (i := 1) (N := some 5) (v := ?_) (a' := ?_) z188 rfl rfl (by kernel_rfl) (fun _ _ _ h => h) (Or.inl ⟨by rfl, ?_⟩) hHeld ?_ ?_
 rotate_left
 ·rintro w' ⟨s0, s1⟩; go_simp; try with_reducible rfl
 rotate_left
 ·simp only [Act.put, sA, sB, sC]; rfl
 refine stq 2 6 z189 ?_
 refine take_ (i := 3) (N := some 7) (v := ?_) (a' := ?_) z190 rfl rfl (by kernel_rfl) (fun _ _ _ h => h) (Or.inl ⟨by rfl, ?_⟩) hHeld ?_ ?_
 rotate_left
 ·rintro w' ⟨s0, s1⟩; go_simp; try with_reducible rfl
 rotate_left
 ·simp only [Act.put, sA, sB, sC]; rfl
 refine stq 6 10 z191 ?_
 refine take_ (i := 7) (N := some 11) (v := ?_) (a' := ?_) z192 rfl rfl (by kernel_rfl) (fun _ _ _ h => h) (Or.inl ⟨by rfl, ?_⟩) hHeld ?_ ?_
 rotate_left
 ·rintro w' ⟨s0, s1⟩; go_simp; try with_reducible rfl
 rotate_left
 ·simp only [Act.put, sA, sB, sC]; rfl
 refine stq 8 12 z193 ?_
 refine stq 9 13 z194 ?_
 refine one_ (i := 4) (N := some 8) z195 rfl rfl (by kernel_rfl) (by decide) (fun K hK => ?_)
 refine goes_ Tryz.func36 (by kernel_rfl) rfl #[.slice a 0 c] (by rfl) rfl rfl (by first | rfl | simp [Act.eval]) ?_
 refine (hS.out W0.drew hbel.drew).mono ?_
 rintro e w1 ⟨r, rfl, hr, hb1⟩
 obtain ⟨A1, c1, rfl, hc1, hC1⟩ := hr
 have hb1 : Below W0.heap.size W0 w1 := ⟨hb1.os, hb1.tape, hb1.output, hb1.size, hb1.block⟩
 have d0 := (hb1.block _ (by omega)).trans b0
 have d1 := (hb1.block _ (by omega)).trans b1
 have g0 : w1.cell? ⟨w.heap.size, 0, none⟩ = some (.bool true) := by rw [cellOf d0]; rfl
 have g1 : w1.cell? ⟨w.heap.size, 1, none⟩ = some (.slice a 0 c) := by rw [cellOf d0]; rfl
 have f0 := frozenOf d1
 have i0 : w1.cell? ⟨w.heap.size + 1, 0, none⟩ = some (.bool false) := by rw [cellOf d1]; rfl
 have i1 : w1.cell? ⟨w.heap.size + 1, 1, none⟩ = some (.slice none 0 0) := by rw [cellOf d1]; rfl
 refine ⟨_, rfl, ?_⟩
 refine hK.out _ _ ⟨g0, g1⟩ (fun hHeld => ?_)
 clear hK K
 refine norm_ (a' := ?_) ?_ ?_
 rotate_left
 ·simp only [Act.put, sA, sB, sC]; rfl
 refine stq 5 9 z196 ?_
 refine stq 10 14 z197 ?_
 refine pure_ (i := 11) (N := some 15) (v := undef) (a' := ?_) z198 rfl rfl (by kernel_rfl) (fun _ _ _ h => h) (Or.inr ⟨by rfl, rfl⟩) ?_ ?_
 rotate_left
 ·simp only [Act.put, sA, sB, sC]; rfl
 refine pure_ (i := 12) (N := some 16) (v := undef) (a' := ?_) z199 rfl rfl (by kernel_rfl) (fun _ _ _ h => h) (Or.inr ⟨by rfl, rfl⟩) ?_ ?_
 rotate_left
 ·simp only [Act.put, sA, sB, sC]; rfl
 refine pure_ (i := 13) (N := some 17) (v := undef) (a' := ?_) z200 rfl rfl (by kernel_rfl) (fun _ _ _ h => h) (Or.inr ⟨by rfl, rfl⟩) ?_ ?_
 rotate_left
 ·simp only [Act.put, sA, sB, sC]; rfl
 refine pure_ (i := 14) (N := some 18) (v := undef) (a' := ?_) z201 rfl rfl (by kernel_rfl) (fun _ _ _ h => h) (Or.inr ⟨by rfl, rfl⟩) ?_ ?_
 rotate_left
 ·simp only [Act.put, sA, sB, sC]; rfl
 refine pure_ (i := 15) (N := some 19) (v := undef) (a' := ?_) z202 rfl rfl (by kernel_rfl) (fun _ _ _ h => h) (Or.inr ⟨by rfl, rfl⟩) ?_ ?_
 rotate_left
 ·simp only [Act.put, sA, sB, sC]; rfl
 refine stq 16 20 z203 ?_
 refine stq 17 21 z204 ?_
 refine stq 18 22 z205 ?_
 refine take_ (i := 19) (N := some 23) (v := ?_) (a' := ?_) z206 rfl rfl (by kernel_rfl) (fun _ _ _ h => h) (Or.inl ⟨by rfl, ?_⟩) hHeld ?_ ?_
 rotate_left
 ·rintro w' ⟨s0, s1⟩; go_simp; try with_reducible rfl
 rotate_left
 ·simp only [Act.put, sA, sB, sC]; rfl
 refine stq 20 24 z207 ?_
 refine stq 21 25 z208 ?_
 refine take_ (i := 22) (N := some 26) (v := ?_) (a' := ?_) z209 rfl rfl (by kernel_rfl) (fun _ _ _ h => h) (Or.inl ⟨by rfl, ?_⟩) hHeld ?_ ?_
 rotate_left
 ·rintro w' ⟨s0, s1⟩; go_simp; try with_reducible rfl
 rotate_left
 ·simp only [Act.put, sA, sB, sC]; rfl
 refine stq 23 27 z210 ?_
 refine stq 24 28 z211 ?_
 refine stq 25 29 z212 ?_
 refine stq 26 30 z213 ?_
 refine stq 27 31 z214 ?_
 refine one_ (i := 28) (N := none) z215 rfl rfl (by kernel_rfl) (by decide) (fun K hK => ?_)
 refine skip_ (w1 := ?_) (by rfl) rfl ?_ ?_
 rotate_left
 ·go_simp; try rfl
 refine hK.out _ _ (hkey _ _ _ ⟨g0, g1⟩) (fun hHeld => ?_)
 clear hK K
 refine stq 29 3 z216 ?_
 refine done_ (by kernel_rfl) ?_
 go_wp2_with fail
 exact ⟨rfl, _, results_ct Tryz.results12 _ _ (w.heap.size + 1) 29 _ (0, 0) _ rfl (box2 d1 _ _) Tryz.underlying29 rfl (by kernel_rfl), _, rfl,
  Reads.other ⟨A1, c1, rfl, hc1, hC1⟩ d1 (noInt2 _ _ _ _ _) (put2_heap _ _ _ _), put2_below (below_then' hbel hb1) (Nat.le_succ _) _ _⟩
set_option maxRecDepth 100000 in
theorem vaWhole_zf {w : World} {a : Option Addr} {c : Nat} (h : Reads .u8 w (.slice a 0 c) []) :
  Calls Tryz.prog 12 #[.agg #[.bool false, .slice a 0 c]] w fun e w' => ∃ r, e = .returned (.tuple #[.agg #[.bool false, r], .bool true]) ∧ NatS w' r (beVal []) ∧ Below w.heap.size w w' := by
 have hS := Lib.hid (fun (W : World) (hW : Below w.heap.size w W) => vaNat_any (w := W) (h.below hW) (fun _ h => by cases h) (by decide))
 clear h
 obtain ⟨b0, b1, hbel, hsz⟩ := two_boxes w (.cells #[.bool false, .slice a 0 c] 24 (0, 0)) (.cells #[.bool false, .slice none 0 0] 29 (0, 0))
 go_enter Tryz.func12, Tryz.ntmps12
 go_wp2_with fail
 generalize (w.alloc (.cells #[.bool false, .slice a 0 c] 24 (0, 0))).alloc (.cells #[.bool false, .slice none 0 0] 29 (0, 0)) = W0 at *
 have k0 : W0.cell? ⟨w.heap.size, 0, none⟩ = some (.bool false) := by rw [cellOf b0]; rfl
 have k1 : W0.cell? ⟨w.heap.size, 1, none⟩ = some (.slice a 0 c) := by rw [cellOf b0]; rfl
 have hkey : ∀ (W : World) (y0 y1 : Value), (fun W => W.cell? ⟨w.heap.size, 0, none⟩ = some (.bool false) ∧ W.cell? ⟨w.heap.size, 1, none⟩ = some (.slice a 0 c)) W → (fun W => W.cell? ⟨w.heap.size, 0, none⟩ = some (.bool false) ∧ W.cell? ⟨w.heap.size, 1, none⟩ = some (.slice a 0 c)) ((W.setCell ⟨w.heap.size + 1, 0, none⟩ y0).setCell ⟨w.heap.size + 1, 1, none⟩ y1) := by
  intro W y0 y1 ⟨q0, q1⟩
  have f : ∀ (b : Nat) (p : Addr), p.block = b → b ≠ w.heap.size + 1 → ((W.setCell ⟨w.heap.size + 1, 0, none⟩ y0).setCell ⟨w.heap.size + 1, 1, none⟩ y1).cell? p = W.cell? p := fun b p hp hne => World.cell?_of_block (put2_heap _ _ _ _ _ (by rw [hp]; exact hne))
  exact ⟨(f w.heap.size _ rfl (by omega)).trans q0, (f w.heap.size _ rfl (by omega)).trans q1⟩
 refine start_ (n := 30) (S := fun W => W.cell? ⟨w.heap.size, 0, none⟩ = some (.bool false) ∧ W.cell? ⟨w.heap.size, 1, none⟩ = some (.slice a 0 c)) (ds := []) z186 (by kernel_rfl) rfl rfl ⟨k0, k1⟩ (fun hHeld => ?_)
 refine stq 0 4 z187 ?_
 refine take_ (i := 1) (N := some 5) (v := ?_) (a' := ?_) z188 rfl rfl (by kernel_rfl) (fun _ _ _ h => h) (Or.inl ⟨by rfl, ?_⟩) hHeld ?_ ?_
 rotate_left
 ·rintro w' ⟨s0, s1⟩; go_simp; try with_reducible rfl
 rotate_left
 ·simp only [Act.put, sA, sB, sC]; rfl
 refine stq 2 6 z189 ?_
 refine take_ (i := 3) (N := some 7) (v := ?_) (a' := ?_) z190 rfl rfl (by kernel_rfl) (fun _ _ _ h => h) (Or.inl ⟨by rfl, ?_⟩) hHeld ?_ ?_
 rotate_left
 ·rintro w' ⟨s0, s1⟩; go_simp; try with_reducible rfl
 rotate_left
 ·simp only [Act.put, sA, sB, sC]; rfl
 refine stq 6 10 z191 ?_
 refine take_ (i := 7) (N := some 11) (v := ?_) (a' := ?_) z192 rfl rfl (by kernel_rfl) (fun _ _ _ h => h) (Or.inl ⟨by rfl, ?_⟩) hHeld ?_ ?_
 rotate_left
 ·rintro w' ⟨s0, s1⟩; go_simp; try with_reducible rfl
 rotate_left
 ·simp only [Act.put, sA, sB, sC]; rfl
 refine stq 8 12 z193 ?_
 refine stq 9 13 z194 ?_
 refine one_ (i := 4) (N := some 8) z195 rfl rfl (by kernel_rfl) (by decide) (fun K hK => ?_)
 refine goes_ Tryz.func36 (by kernel_rfl) rfl #[.slice a 0 c] (by rfl) rfl rfl (by first | rfl | simp [Act.eval]) ?_
 refine (hS.out W0.drew hbel.drew).mono ?_
 rintro e w1 ⟨r, rfl, hr, hb1⟩
 obtain ⟨A1, c1, rfl, hc1, hC1⟩ := hr
 have hb1 : Below W0.heap.size W0 w1 := ⟨hb1.os, hb1.tape, hb1.output, hb1.size, hb1.block⟩
 have d0 := (hb1.block _ (by omega)).trans b0
 have d1 := (hb1.block _ (by omega)).trans b1
 have g0 : w1.cell? ⟨w.heap.size, 0, none⟩ = some (.bool false) := by rw [cellOf d0]; rfl
 have g1 : w1.cell? ⟨w.heap.size, 1, none⟩ = some (.slice a 0 c) := by rw [cellOf d0]; rfl
 have f0 := frozenOf d1
 have i0 : w1.cell? ⟨w.heap.size + 1, 0, none⟩ = some (.bool false) := by rw [cellOf d1]; rfl
 have i1 : w1.cell? ⟨w.heap.size + 1, 1, none⟩ = some (.slice none 0 0) := by rw [cellOf d1]; rfl
 refine ⟨_, rfl, ?_⟩
 refine hK.out _ _ ⟨g0, g1⟩ (fun hHeld => ?_)
 clear hK K
 refine norm_ (a' := ?_) ?_ ?_
 rotate_left
 ·simp only [Act.put, sA, sB, sC]; rfl
 refine stq 5 9 z196 ?_
 refine stq 10 14 z197 ?_
 refine pure_ (i := 11) (N := some 15) (v := undef) (a' := ?_) z198 rfl rfl (by kernel_rfl) (fun _ _ _ h => h) (Or.inr ⟨by rfl, rfl⟩) ?_ ?_
 rotate_left
 ·simp only [Act.put, sA, sB, sC]; rfl
 refine pure_ (i := 12) (N := some 16) (v := undef) (a' := ?_) z199 rfl rfl (by kernel_rfl) (fun _ _ _ h => h) (Or.inr ⟨by rfl, rfl⟩) ?_ ?_
 rotate_left
 ·simp only [Act.put, sA, sB, sC]; rfl
 refine pure_ (i := 13) (N := some 17) (v := undef) (a' := ?_) z200 rfl rfl (by kernel_rfl) (fun _ _ _ h => h) (Or.inr ⟨by rfl, rfl⟩) ?_ ?_
 rotate_left
 ·simp only [Act.put, sA, sB, sC]; rfl
 refine pure_ (i := 14) (N := some 18) (v := undef) (a' := ?_) z201 rfl rfl (by kernel_rfl) (fun _ _ _ h => h) (Or.inr ⟨by rfl, rfl⟩) ?_ ?_
 rotate_left
 ·simp only [Act.put, sA, sB, sC]; rfl
 refine pure_ (i := 15) (N := some 19) (v := undef) (a' := ?_) z202 rfl rfl (by kernel_rfl) (fun _ _ _ h => h) (Or.inr ⟨by rfl, rfl⟩) ?_ ?_
 rotate_left
 ·simp only [Act.put, sA, sB, sC]; rfl
 refine stq 16 20 z203 ?_
 refine stq 17 21 z204 ?_
 refine stq 18 22 z205 ?_
 refine take_ (i := 19) (N := some 23) (v := ?_) (a' := ?_) z206 rfl rfl (by kernel_rfl) (fun _ _ _ h => h) (Or.inl ⟨by rfl, ?_⟩) hHeld ?_ ?_
 rotate_left
 ·rintro w' ⟨s0, s1⟩; go_simp; try with_reducible rfl
 rotate_left
 ·simp only [Act.put, sA, sB, sC]; rfl
 refine stq 20 24 z207 ?_
 refine pure_ (i := 21) (N := some 25) (v := undef) (a' := ?_) z208 rfl rfl (by kernel_rfl) (fun _ _ _ h => h) (Or.inr ⟨by rfl, rfl⟩) ?_ ?_
 rotate_left
 ·simp only [Act.put, sA, sB, sC]; rfl
 refine pure_ (i := 22) (N := some 26) (v := undef) (a' := ?_) z209 rfl rfl (by kernel_rfl) (fun _ _ _ h => h) (Or.inr ⟨by rfl, rfl⟩) ?_ ?_
 rotate_left
 ·simp only [Act.put, sA, sB, sC]; rfl
 refine pure_ (i := 23) (N := some 27) (v := undef) (a' := ?_) z210 rfl rfl (by kernel_rfl) (fun _ _ _ h => h) (Or.inr ⟨by rfl, rfl⟩) ?_ ?_
 rotate_left
 ·simp only [Act.put, sA, sB, sC]; rfl
 refine pure_ (i := 24) (N := some 28) (v := undef) (a' := ?_) z211 rfl rfl (by kernel_rfl) (fun _ _ _ h => h) (Or.inr ⟨by rfl, rfl⟩) ?_ ?_
 rotate_left
 ·simp only [Act.put, sA, sB, sC]; rfl
 refine stq 25 29 z212 ?_
 refine stq 26 30 z213 ?_
 refine stq 27 31 z214 ?_
 refine one_ (i := 28) (N := none) z215 rfl rfl (by kernel_rfl) (by decide) (fun K hK => ?_)
 refine skip_ (w1 := ?_) (by rfl) rfl ?_ ?_
 rotate_left
 ·go_simp; try rfl
 refine hK.out _ _ (hkey _ _ _ ⟨g0, g1⟩) (fun hHeld => ?_)
 clear hK K
 refine stq 29 3 z216 ?_
 refine done_ (by kernel_rfl) ?_
 go_wp2_with fail
 exact ⟨rfl, _, results_ct Tryz.results12 _ _ (w.heap.size + 1) 29 _ (0, 0) _ rfl (box2 d1 _ _) Tryz.underlying29 rfl (by kernel_rfl), _, rfl,
  Reads.other ⟨A1, c1, rfl, hc1, hC1⟩ d1 (noInt2 _ _ _ _ _) (put2_heap _ _ _ _), put2_below (below_then' hbel hb1) (Nat.le_succ _) _ _⟩
set_option maxRecDepth 100000 in
theorem vaWhole_o {w : World} {a : Addr} {n c : Nat} {xs : List Nat} (neg : Bool) (h : Reads .u8 w (.slice (some a) n c) xs) (hb : ∀ x ∈ xs, x < 256) (hl : xs.length ≤ 2147483648) (h0 : 0 < n) (hx : w.cell? a = some (.int .u8 ((0 : Nat) : Int))) :
  Calls Tryz.prog 12 #[.agg #[.bool neg, .slice (some a) n c]] w fun e w' => ∃ r, e = .returned (.tuple #[.agg #[.bool neg, r], .bool false]) ∧ NatS w' r (beVal xs) ∧ Below w.heap.size w w' := by
 have hS := Lib.hid (fun (W : World) (hW : Below w.heap.size w W) => vaNat_any (w := W) (h.below hW) hb hl)
 have e1 : ((n : Int) == 0) = false := beq_eq_false_iff_ne.2 (by omega)
 have e2 : (0 : Int) < (n : Int) := by omega
 have e5 : decide (0 < n) = true := decide_eq_true h0
 have hlt := World.block_lt_of_cell? w _ hx
 clear h hb hl
 obtain ⟨b0, b1, hbel, hsz⟩ := two_boxes w (.cells #[.bool neg, .slice (some a) n c] 24 (0, 0)) (.cells #[.bool false, .slice none 0 0] 29 (0, 0))
 go_enter Tryz.func12, Tryz.ntmps12
 go_wp2_with fail
 generalize (w.alloc (.cells #[.bool neg, .slice (some a) n c] 24 (0, 0))).alloc (.cells #[.bool false, .slice none 0 0] 29 (0, 0)) = W0 at *
 have k0 : W0.cell? ⟨w.heap.size, 0, none⟩ = some (.bool neg) := by rw [cellOf b0]; rfl
 have k1 : W0.cell? ⟨w.heap.size, 1, none⟩ = some (.slice (some a) n c) := by rw [cellOf b0]; rfl
 have k2 := (hbel.cell hlt).trans hx
 have hkey : ∀ (W : World) (y0 y1 : Value), (fun W => W.cell? ⟨w.heap.size, 0, none⟩ = some (.bool neg) ∧ W.cell? ⟨w.heap.size, 1, none⟩ = some (.slice (some a) n c) ∧ W.cell? a = some (.int .u8 ((0 : Nat) : Int))) W → (fun W => W.cell? ⟨w.heap.size, 0, none⟩ = some (.bool neg) ∧ W.cell? ⟨w.heap.size, 1, none⟩ = some (.slice (some a) n c) ∧ W.cell? a = some (.int .u8 ((0 : Nat) : Int))) ((W.setCell ⟨w.heap.size + 1, 0, none⟩ y0).setCell ⟨w.heap.size + 1, 1, none⟩ y1) := by
  intro W y0 y1 ⟨q0, q1, q2⟩
  have f : ∀ (b : Nat) (p : Addr), p.block = b → b ≠ w.heap.size + 1 → ((W.setCell ⟨w.heap.size + 1, 0, none⟩ y0).setCell ⟨w.heap.size + 1, 1, none⟩ y1).cell? p = W.cell? p := fun b p hp hne => World.cell?_of_block (put2_heap _ _ _ _ _ (by rw [hp]; exact hne))
  exact ⟨(f w.heap.size _ rfl (by omega)).trans q0, (f w.heap.size _ rfl (by omega)).trans q1, (f a.block _ rfl (by omega)).trans q2⟩
 refine start_ (n := 30) (S := fun W => W.cell? ⟨w.heap.size, 0, none⟩ = some (.bool neg) ∧ W.cell? ⟨w.heap.size, 1, none⟩ = some (.slice (some a) n c) ∧ W.cell? a = some (.int .u8 ((0 : Nat) : Int))) (ds := []) z186 (by kernel_rfl) rfl rfl ⟨k0, k1, k2⟩ (fun hHeld => ?_)
 refine stq 0 4 z187 ?_
 refine take_ (i := 1) (N := some 5) (v := ?_) (a' := ?_) z188 rfl rfl (by kernel_rfl) (fun _ _ _ h => h) (Or.inl ⟨by rfl, ?_⟩) hHeld ?_ ?_
 rotate_left
 ·rintro w' ⟨s0, s1, s2⟩; go_simp; try with_reducible rfl
 rotate_left
 ·simp only [Act.put, sA, sB, sC]; rfl
 refine stq 2 6 z189 ?_
 refine take_ (i := 3) (N := some 7) (v := ?_) (a' := ?_) z190 rfl rfl (by kernel_rfl) (fun _ _ _ h => h) (Or.inl ⟨by rfl, ?_⟩) hHeld ?_ ?_
 rotate_left
 ·rintro w' ⟨s0, s1, s2⟩; go_simp; try with_reducible rfl
 rotate_left
 ·simp only [Act.put, sA, sB, sC]; rfl
 refine stq 6 10 z191 ?_
 refine take_ (i := 7) (N := some 11) (v := ?_) (a' := ?_) z192 rfl rfl (by kernel_rfl) (fun _ _ _ h => h) (Or.inl ⟨by rfl, ?_⟩) hHeld ?_ ?_
 rotate_left
 ·rintro w' ⟨s0, s1, s2⟩; go_simp; try with_reducible rfl
 rotate_left
 ·simp only [Act.put, sA, sB, sC]; rfl
 refine stq 8 12 z193 ?_
 refine stq 9 13 z194 ?_
 refine one_ (i := 4) (N := some 8) z195 rfl rfl (by kernel_rfl) (by decide) (fun K hK => ?_)
 refine goes_ Tryz.func36 (by kernel_rfl) rfl #[.slice (some a) n c] (by rfl) rfl rfl (by first | rfl | simp [Act.eval]) ?_
 refine (hS.out W0.drew hbel.drew).mono ?_
 rintro e w1 ⟨r, rfl, hr, hb1⟩
 obtain ⟨A1, c1, rfl, hc1, hC1⟩ := hr
 have hb1 : Below W0.heap.size W0 w1 := ⟨hb1.os, hb1.tape, hb1.output, hb1.size, hb1.block⟩
 have d0 := (hb1.block _ (by omega)).trans b0
 have d1 := (hb1.block _ (by omega)).trans b1
 have g0 : w1.cell? ⟨w.heap.size, 0, none⟩ = some (.bool neg) := by rw [cellOf d0]; rfl
 have g1 : w1.cell? ⟨w.heap.size, 1, none⟩ = some (.slice (some a) n c) := by rw [cellOf d0]; rfl
 have g2 := (hb1.cell (by omega)).trans k2
 have f0 := frozenOf d1
 have i0 : w1.cell? ⟨w.heap.size + 1, 0, none⟩ = some (.bool false) := by rw [cellOf d1]; rfl
 have i1 : w1.cell? ⟨w.heap.size + 1, 1, none⟩ = some (.slice none 0 0) := by rw [cellOf d1]; rfl
 refine ⟨_, rfl, ?_⟩
 refine hK.out _ _ ⟨g0, g1, g2⟩ (fun hHeld => ?_)
 clear hK K
 refine norm_ (a' := ?_) ?_ ?_
 rotate_left
 ·simp only [Act.put, sA, sB, sC]; rfl
 refine stq 5 9 z196 ?_
 refine stq 10 14 z197 ?_
 refine stq 11 15 z198 ?_
 refine take_ (i := 12) (N := some 16) (v := ?_) (a' := ?_) z199 rfl rfl (by kernel_rfl) (fun _ _ _ h => h) (Or.inl ⟨by rfl, ?_⟩) hHeld ?_ ?_
 rotate_left
 ·rintro w' ⟨s0, s1, s2⟩; go_simp; try with_reducible rfl
 rotate_left
 ·simp only [Act.put, sA, sB, sC]; rfl
 refine stq 13 17 z200 ?_
 refine take_ (i := 14) (N := some 18) (v := ?_) (a' := ?_) z201 rfl rfl (by kernel_rfl) (fun _ _ _ h => h) (Or.inl ⟨by rfl, ?_⟩) hHeld ?_ ?_
 rotate_left
 ·rintro w' ⟨s0, s1, s2⟩; go_simp; try with_reducible rfl
 rotate_left
 ·simp only [Act.put, sA, sB, sC]; rfl
 refine stq 15 19 z202 ?_
 refine stq 16 20 z203 ?_
 refine stq 17 21 z204 ?_
 refine pure_ (i := 18) (N := some 22) (v := undef) (a' := ?_) z205 rfl rfl (by kernel_rfl) (fun _ _ _ h => h) (Or.inr ⟨by rfl, rfl⟩) ?_ ?_
 rotate_left
 ·simp only [Act.put, sA, sB, sC]; rfl
 refine pure_ (i := 19) (N := some 23) (v := undef) (a' := ?_) z206 rfl rfl (by kernel_rfl) (fun _ _ _ h => h) (Or.inr ⟨by rfl, rfl⟩) ?_ ?_
 rotate_left
 ·simp only [Act.put, sA, sB, sC]; rfl
 refine pure_ (i := 20) (N := some 24) (v := undef) (a' := ?_) z207 rfl rfl (by kernel_rfl) (fun _ _ _ h => h) (Or.inr ⟨by rfl, rfl⟩) ?_ ?_
 rotate_left
 ·simp only [Act.put, sA, sB, sC]; rfl
 refine pure_ (i := 21) (N := some 25) (v := undef) (a' := ?_) z208 rfl rfl (by kernel_rfl) (fun _ _ _ h => h) (Or.inr ⟨by rfl, rfl⟩) ?_ ?_
 rotate_left
 ·simp only [Act.put, sA, sB, sC]; rfl
 refine pure_ (i := 22) (N := some 26) (v := undef) (a' := ?_) z209 rfl rfl (by kernel_rfl) (fun _ _ _ h => h) (Or.inr ⟨by rfl, rfl⟩) ?_ ?_
 rotate_left
 ·simp only [Act.put, sA, sB, sC]; rfl
 refine pure_ (i := 23) (N := some 27) (v := undef) (a' := ?_) z210 rfl rfl (by kernel_rfl) (fun _ _ _ h => h) (Or.inr ⟨by rfl, rfl⟩) ?_ ?_
 rotate_left
 ·simp only [Act.put, sA, sB, sC]; rfl
 refine pure_ (i := 24) (N := some 28) (v := undef) (a' := ?_) z211 rfl rfl (by kernel_rfl) (fun _ _ _ h => h) (Or.inr ⟨by rfl, rfl⟩) ?_ ?_
 rotate_left
 ·simp only [Act.put, sA, sB, sC]; rfl
 refine pure_ (i := 25) (N := some 29) (v := undef) (a' := ?_) z212 rfl rfl (by kernel_rfl) (fun _ _ _ h => h) (Or.inr ⟨by rfl, rfl⟩) ?_ ?_
 rotate_left
 ·simp only [Act.put, sA, sB, sC]; rfl
 refine pure_ (i := 26) (N := some 30) (v := undef) (a' := ?_) z213 rfl rfl (by kernel_rfl) (fun _ _ _ h => h) (Or.inr ⟨by rfl, rfl⟩) ?_ ?_
 rotate_left
 ·simp only [Act.put, sA, sB, sC]; rfl
 refine stq 27 31 z214 ?_
 refine one_ (i := 28) (N := none) z215 rfl rfl (by kernel_rfl) (by decide) (fun K hK => ?_)
 refine skip_ (w1 := ?_) (by rfl) rfl ?_ ?_
 rotate_left
 ·go_simp; try rfl
 refine hK.out _ _ (hkey _ _ _ ⟨g0, g1, g2⟩) (fun hHeld => ?_)
 clear hK K
 refine stq 29 3 z216 ?_
 refine done_ (by kernel_rfl) ?_
 go_wp2_with fail
 exact ⟨rfl, _, results_ct Tryz.results12 _ _ (w.heap.size + 1) 29 _ (0, 0) _ rfl (box2 d1 _ _) Tryz.underlying29 rfl (by kernel_rfl), _, rfl,
  Reads.other ⟨A1, c1, rfl, hc1, hC1⟩ d1 (noInt2 _ _ _ _ _) (put2_heap _ _ _ _), put2_below (below_then' hbel hb1) (Nat.le_succ _) _ _⟩
set_option maxRecDepth 100000 in
theorem vaWhole_pt {w : World} {a : Addr} {n c : Nat} {xs : List Nat} (h : Reads .u8 w (.slice (some a) n c) xs) (hb : ∀ x ∈ xs, x < 256) (hl : xs.length ≤ 2147483648) (h0 : 0 < n) (x : Nat) (hx : w.cell? a = some (.int .u8 (x : Int))) (hx0 : x ≠ 0) :
  Calls Tryz.prog 12 #[.agg #[.bool true, .slice (some a) n c]] w fun e w' => ∃ r, e = .returned (.tuple #[.agg #[.bool true, r], .bool true]) ∧ NatS w' r (beVal xs) ∧ Below w.heap.size w w' := by
 have hS := Lib.hid (fun (W : World) (hW : Below w.heap.size w W) => vaNat_any (w := W) (h.below hW) hb hl)
 have e1 : ((n : Int) == 0) = false := beq_eq_false_iff_ne.2 (by omega)
 have e2 : (0 : Int) < (n : Int) := by omega
 have e5 : decide (0 < n) = true := decide_eq_true h0
 have e4 : ((x : Int) != 0) = true := bne_iff_ne.2 (by omega)
 have hlt := World.block_lt_of_cell? w _ hx
 clear h hb hl
 obtain ⟨b0, b1, hbel, hsz⟩ := two_boxes w (.cells #[.bool true, .slice (some a) n c] 24 (0, 0)) (.cells #[.bool false, .slice none 0 0] 29 (0, 0))
 go_enter Tryz.func12, Tryz.ntmps12
 go_wp2_with fail
 generalize (w.alloc (.cells #[.bool true, .slice (some a) n c] 24 (0, 0))).alloc (.cells #[.bool false, .slice none 0 0] 29 (0, 0)) = W0 at *
 have k0 : W0.cell? ⟨w.heap.size, 0, none⟩ = some (.bool true) := by rw [cellOf b0]; rfl
 have k1 : W0.cell? ⟨w.heap.size, 1, none⟩ = some (.slice (some a) n c) := by rw [cellOf b0]; rfl
 have k2 := (hbel.cell hlt).trans hx
 have hkey : ∀ (W : World) (y0 y1 : Value), (fun W => W.cell? ⟨w.heap.size, 0, none⟩ = some (.bool true) ∧ W.cell? ⟨w.heap.size, 1, none⟩ = some (.slice (some a) n c) ∧ W.cell? a = some (.int .u8 (x : Int))) W → (fun W => W.cell? ⟨w.heap.size, 0, none⟩ = some (.bool true) ∧ W.cell? ⟨w.heap.size, 1, none⟩ = some (.slice (some a) n c) ∧ W.cell? a = some (.int .u8 (x : Int))) ((W.setCell ⟨w.heap.size + 1, 0, none⟩ y0).setCell ⟨w.heap.size + 1, 1, none⟩ y1) := by
  intro W y0 y1 ⟨q0, q1, q2⟩
  have f : ∀ (b : Nat) (p : Addr), p.block = b → b ≠ w.heap.size + 1 → ((W.setCell ⟨w.heap.size + 1, 0, none⟩ y0).setCell ⟨w.heap.size + 1, 1, none⟩ y1).cell? p = W.cell? p := fun b p hp hne => World.cell?_of_block (put2_heap _ _ _ _ _ (by rw [hp]; exact hne))
  exact ⟨(f w.heap.size _ rfl (by omega)).trans q0, (f w.heap.size _ rfl (by omega)).trans q1, (f a.block _ rfl (by omega)).trans q2⟩
 refine start_ (n := 30) (S := fun W => W.cell? ⟨w.heap.size, 0, none⟩ = some (.bool true) ∧ W.cell? ⟨w.heap.size, 1, none⟩ = some (.slice (some a) n c) ∧ W.cell? a = some (.int .u8 (x : Int))) (ds := []) z186 (by kernel_rfl) rfl rfl ⟨k0, k1, k2⟩ (fun hHeld => ?_)
 refine stq 0 4 z187 ?_
 refine take_ (i := 1) (N := some 5) (v := ?_) (a' := ?_) z188 rfl rfl (by kernel_rfl) (fun _ _ _ h => h) (Or.inl ⟨by rfl, ?_⟩) hHeld ?_ ?_
 rotate_left
 ·rintro w' ⟨s0, s1, s2⟩; go_simp; try with_reducible rfl
 rotate_left
 ·simp only [Act.put, sA, sB, sC]; rfl
 refine stq 2 6 z189 ?_
 refine take_ (i := 3) (N := some 7) (v := ?_) (a' := ?_) z190 rfl rfl (by kernel_rfl) (fun _ _ _ h => h) (Or.inl ⟨by rfl, ?_⟩) hHeld ?_ ?_
 rotate_left
 ·rintro w' ⟨s0, s1, s2⟩; go_simp; try with_reducible rfl
 rotate_left
 ·simp only [Act.put, sA, sB, sC]; rfl
 refine stq 6 10 z191 ?_
 refine take_ (i := 7) (N := some 11) (v := ?_) (a' := ?_) z192 rfl rfl (by kernel_rfl) (fun _ _ _ h => h) (Or.inl ⟨by rfl, ?_⟩) hHeld ?_ ?_
 rotate_left
 ·rintro w' ⟨s0, s1, s2⟩; go_simp; try with_reducible rfl
 rotate_left
 ·simp only [Act.put, sA, sB, sC]; rfl
 refine stq 8 12 z193 ?_
 refine stq 9 13 z194 ?_
 refine one_ (i := 4) (N := some 8) z195 rfl rfl (by kernel_rfl) (by decide) (fun K hK => ?_)
 refine goes_ Tryz.func36 (by kernel_rfl) rfl #[.slice (some a) n c] (by rfl) rfl rfl (by first | rfl | simp [Act.eval]) ?_
 refine (hS.out W0.drew hbel.drew).mono ?_
 rintro e w1 ⟨r, rfl, hr, hb1⟩
 obtain ⟨A1, c1, rfl, hc1, hC1⟩ := hr
 have hb1 : Below W0.heap.size W0 w1 := ⟨hb1.os, hb1.tape, hb1.output, hb1.size, hb1.block⟩
 have d0 := (hb1.block _ (by omega)).trans b0
 have d1 := (hb1.block _ (by omega)).trans b1
 have g0 : w1.cell? ⟨w.heap.size, 0, none⟩ = some (.bool true) := by rw [cellOf d0]; rfl
 have g1 : w1.cell? ⟨w.heap.size, 1, none⟩ = some (.slice (some a) n c) := by rw [cellOf d0]; rfl
 have g2 := (hb1.cell (by omega)).trans k2
 have f0 := frozenOf d1
 have i0 : w1.cell? ⟨w.heap.size + 1, 0, none⟩ = some (.bool false) := by rw [cellOf d1]; rfl
 have i1 : w1.cell? ⟨w.heap.size + 1, 1, none⟩ = some (.slice none 0 0) := by rw [cellOf d1]; rfl
 refine ⟨_, rfl, ?_⟩
 refine hK.out _ _ ⟨g0, g1, g2⟩ (fun hHeld => ?_)
 clear hK K
 refine norm_ (a' := ?_) ?_ ?_
 rotate_left
 ·simp only [Act.put, sA, sB, sC]; rfl
 refine stq 5 9 z196 ?_
 refine stq 10 14 z197 ?_
 refine stq 11 15 z198 ?_
 refine take_ (i := 12) (N := some 16) (v := ?_) (a' := ?_) z199 rfl rfl (by kernel_rfl) (fun _ _ _ h => h) (Or.inl ⟨by rfl, ?_⟩) hHeld ?_ ?_
 rotate_left
 ·rintro w' ⟨s0, s1, s2⟩; go_simp; try with_reducible rfl
 rotate_left
 ·simp only [Act.put, sA, sB, sC]; rfl
 refine stq 13 17 z200 ?_
 refine take_ (i := 14) (N := some 18) (v := ?_) (a' := ?_) z201 rfl rfl (by kernel_rfl) (fun _ _ _ h => h) (Or.inl ⟨by rfl, ?_⟩) hHeld ?_ ?_
 rotate_left
 ·rintro w' ⟨s0, s1, s2⟩; go_simp; try with_reducible rfl
 rotate_left
 ·simp only [Act.put, sA, sB, sC]; rfl
 refine stq 15 19 z202 ?_
 refine stq 16 20 z203 ?_
 refine stq 17 21 z204 ?_
 refine stq 18 22 z205 ?_
 refine take_ (i := 19) (N := some 23) (v := ?_) (a' := ?_) z206 rfl rfl (by kernel_rfl) (fun _ _ _ h => h) (Or.inl ⟨by rfl, ?_⟩) hHeld ?_ ?_
 rotate_left
 ·rintro w' ⟨s0, s1, s2⟩; go_simp; try with_reducible rfl
 rotate_left
 ·simp only [Act.put, sA, sB, sC]; rfl
 refine stq 20 24 z207 ?_
 refine stq 21 25 z208 ?_
 refine take_ (i := 22) (N := some 26) (v := ?_) (a' := ?_) z209 rfl rfl (by kernel_rfl) (fun _ _ _ h => h) (Or.inl ⟨by rfl, ?_⟩) hHeld ?_ ?_
 rotate_left
 ·rintro w' ⟨s0, s1, s2⟩; go_simp; try with_reducible rfl
 rotate_left
 ·simp only [Act.put, sA, sB, sC]; rfl
 refine stq 23 27 z210 ?_
 refine stq 24 28 z211 ?_
 refine stq 25 29 z212 ?_
 refine stq 26 30 z213 ?_
 refine stq 27 31 z214 ?_
 refine one_ (i := 28) (N := none) z215 rfl rfl (by kernel_rfl) (by decide) (fun K hK => ?_)
 refine skip_ (w1 := ?_) (by rfl) rfl ?_ ?_
 rotate_left
 ·go_simp; try rfl
 refine hK.out _ _ (hkey _ _ _ ⟨g0, g1, g2⟩) (fun hHeld => ?_)
 clear hK K
 refine stq 29 3 z216 ?_
 refine done_ (by kernel_rfl) ?_
 go_wp2_with fail
 exact ⟨rfl, _, results_ct Tryz.results12 _ _ (w.heap.size + 1) 29 _ (0, 0) _ rfl (box2 d1 _ _) Tryz.underlying29 rfl (by kernel_rfl), _, rfl,
  Reads.other ⟨A1, c1, rfl, hc1, hC1⟩ d1 (noInt2 _ _ _ _ _) (put2_heap _ _ _ _), put2_below (below_then' hbel hb1) (Nat.le_succ _) _ _⟩
set_option maxRecDepth 100000 in
theorem vaWhole_pf {w : World} {a : Addr} {n c : Nat} {xs : List Nat} (h : Reads .u8 w (.slice (some a) n c) xs) (hb : ∀ x ∈ xs, x < 256) (hl : xs.length ≤ 2147483648) (h0 : 0 < n) (x : Nat) (hx : w.cell? a = some (.int .u8 (x : Int))) (hx0 : x ≠ 0) :
  Calls Tryz.prog 12 #[.agg #[.bool false, .slice (some a) n c]] w fun e w' => ∃ r, e = .returned (.tuple #[.agg #[.bool false, r], .bool true]) ∧ NatS w' r (beVal xs) ∧ Below w.heap.size w w' := by
 have hS := Lib.hid (fun (W : World) (hW : Below w.heap.size w W) => vaNat_any (w := W) (h.below hW) hb hl)
 have e1 : ((n : Int) == 0) = false := beq_eq_false_iff_ne.2 (by omega)
 have e2 : (0 : Int) < (n : Int) := by omega
 have e5 : decide (0 < n) = true := decide_eq_true h0
 have e4 : ((x : Int) != 0) = true := bne_iff_ne.2 (by omega)
 have hlt := World.block_lt_of_cell? w _ hx
 clear h hb hl
 obtain ⟨b0, b1, hbel, hsz⟩ := two_boxes w (.cells #[.bool false, .slice (some a) n c] 24 (0, 0)) (.cells #[.bool false, .slice none 0 0] 29 (0, 0))
 go_enter Tryz.func12, Tryz.ntmps12
 go_wp2_with fail
 generalize (w.alloc (.cells #[.bool false, .slice (some a) n c] 24 (0, 0))).alloc (.cells #[.bool false, .slice none 0 0] 29 (0, 0)) = W0 at *
 have k0 : W0.cell? ⟨w.heap.size, 0, none⟩ = some (.bool false) := by rw [cellOf b0]; rfl
 have k1 : W0.cell? ⟨w.heap.size, 1, none⟩ = some (.slice (some a) n c) := by rw [cellOf b0]; rfl
 have k2 := (hbel.cell hlt).trans hx
 have hkey : ∀ (W : World) (y0 y1 : Value), (fun W => W.cell? ⟨w.heap.size, 0, none⟩ = some (.bool false) ∧ W.cell? ⟨w.heap.size, 1, none⟩ = some (.slice (some a) n c) ∧ W.cell? a = some (.int .u8 (x : Int))) W → (fun W => W.cell? ⟨w.heap.size, 0, none⟩ = some (.bool false) ∧ W.cell? ⟨w.heap.size, 1, none⟩ = some (.slice (some a) n c) ∧ W.cell? a = some (.int .u8 (x : Int))) ((W.setCell ⟨w.heap.size + 1, 0, none⟩ y0).setCell ⟨w.heap.size + 1, 1, none⟩ y1) := by
  intro W y0 y1 ⟨q0, q1, q2⟩
  have f : ∀ (b : Nat) (p : Addr), p.block = b → b ≠ w.heap.size + 1 → ((W.setCell ⟨w.heap.size + 1, 0, none⟩ y0).setCell ⟨w.heap.size + 1, 1, none⟩ y1).cell? p = W.cell? p := fun b p hp hne => World.cell?_of_block (put2_heap _ _ _ _ _ (by rw [hp]; exact hne))
  exact ⟨(f w.heap.size _ rfl (by omega)).trans q0, (f w.heap.size _ rfl (by omega)).trans q1, (f a.block _ rfl (by omega)).trans q2⟩
 refine start_ (n := 30) (S := fun W => W.cell? ⟨w.heap.size, 0, none⟩ = some (.bool false) ∧ W.cell? ⟨w.heap.size, 1, none⟩ = some (.slice (some a) n c) ∧ W.cell? a = some (.int .u8 (x : Int))) (ds := []) z186 (by kernel_rfl) rfl rfl ⟨k0, k1, k2⟩ (fun hHeld => ?_)
 refine stq 0 4 z187 ?_
 refine take_ (i := 1) (N := some 5) (v := ?_) (a' := ?_) z188 rfl rfl (by kernel_rfl) (fun _ _ _ h => h) (Or.inl ⟨by rfl, ?_⟩) hHeld ?_ ?_
 rotate_left
 ·rintro w' ⟨s0, s1, s2⟩; go_simp; try with_reducible rfl
 rotate_left
 ·simp only [Act.put, sA, sB, sC]; rfl
 refine stq 2 6 z189 ?_
 refine take_ (i := 3) (N := some 7) (v := ?_) (a' := ?_) z190 rfl rfl (by kernel_rfl) (fun _ _ _ h => h) (Or.inl ⟨by rfl, ?_⟩) hHeld ?_ ?_
 rotate_left
 ·rintro w' ⟨s0, s1, s2⟩; go_simp; try with_reducible rfl
 rotate_left
 ·simp only [Act.put, sA, sB, sC]; rfl
 refine stq 6 10 z191 ?_
 refine take_ (i := 7) (N := some 11) (v := ?_) (a' := ?_) z192 rfl rfl (by kernel_rfl) (fun _ _ _ h => h) (Or.inl ⟨by rfl, ?_⟩) hHeld ?_ ?_
 rotate_left
 ·rintro w' ⟨s0, s1, s2⟩; go_simp; try with_reducible rfl
 rotate_left
 ·simp only [Act.put, sA, sB, sC]; rfl
 refine stq 8 12 z193 ?_
 refine stq 9 13 z194 ?_
 refine one_ (i := 4) (N := some 8) z195 rfl rfl (by kernel_rfl) (by decide) (fun K hK => ?_)
 refine goes_ Tryz.func36 (by kernel_rfl) rfl #[.slice (some a) n c] (by rfl) rfl rfl (by first | rfl | simp [Act.eval]) ?_
 refine (hS.out W0.drew hbel.drew).mono ?_
 rintro e w1 ⟨r, rfl, hr, hb1⟩
 obtain ⟨A1, c1, rfl, hc1, hC1⟩ := hr
 have hb1 : Below W0.heap.size W0 w1 := ⟨hb1.os, hb1.tape, hb1.output, hb1.size, hb1.block⟩
 have d0 := (hb1.block _ (by omega)).trans b0
 have d1 := (hb1.block _ (by omega)).trans b1
 have g0 : w1.cell? ⟨w.heap.size, 0, none⟩ = some (.bool false) := by rw [cellOf d0]; rfl
 have g1 : w1.cell? ⟨w.heap.size, 1, none⟩ = some (.slice (some a) n c) := by rw [cellOf d0]; rfl
 have g2 := (hb1.cell (by omega)).trans k2
 have f0 := frozenOf d1
 have i0 : w1.cell? ⟨w.heap.size + 1, 0, none⟩ = some (.bool false) := by rw [cellOf d1]; rfl
 have i1 : w1.cell? ⟨w.heap.size + 1, 1, none⟩ = some (.slice none 0 0) := by rw [cellOf d1]; rfl
 refine ⟨_, rfl, ?_⟩
 refine hK.out _ _ ⟨g0, g1, g2⟩ (fun hHeld => ?_)
 clear hK K
 refine norm_ (a' := ?_) ?_ ?_
 rotate_left
 ·simp only [Act.put, sA, sB, sC]; rfl
 refine stq 5 9 z196 ?_
 refine stq 10 14 z197 ?_
 refine stq 11 15 z198 ?_
 refine take_ (i := 12) (N := some 16) (v := ?_) (a' := ?_) z199 rfl rfl (by kernel_rfl) (fun _ _ _ h => h) (Or.inl ⟨by rfl, ?_⟩) hHeld ?_ ?_
 rotate_left
 ·rintro w' ⟨s0, s1, s2⟩; go_simp; try with_reducible rfl
 rotate_left
 ·simp only [Act.put, sA, sB, sC]; rfl
 refine stq 13 17 z200 ?_
 refine take_ (i := 14) (N := some 18) (v := ?_) (a' := ?_) z201 rfl rfl (by kernel_rfl) (fun _ _ _ h => h) (Or.inl ⟨by rfl, ?_⟩) hHeld ?_ ?_
 rotate_left
 ·rintro w' ⟨s0, s1, s2⟩; go_simp; try with_reducible rfl
 rotate_left
 ·simp only [Act.put, sA, sB, sC]; rfl
 refine stq 15 19 z202 ?_
 refine stq 16 20 z203 ?_
 refine stq 17 21 z204 ?_
 refine stq 18 22 z205 ?_
 refine take_ (i := 19) (N := some 23) (v := ?_) (a' := ?_) z206 rfl rfl (by kernel_rfl) (fun _ _ _ h => h) (Or.inl ⟨by rfl, ?_⟩) hHeld ?_ ?_
 rotate_left
 ·rintro w' ⟨s0, s1, s2⟩; go_simp; try with_reducible rfl
 rotate_left
 ·simp only [Act.put, sA, sB, sC]; rfl
 refine stq 20 24 z207 ?_
 refine pure_ (i := 21) (N := some 25) (v := undef) (a' := ?_) z208 rfl rfl (by kernel_rfl) (fun _ _ _ h => h) (Or.inr ⟨by rfl, rfl⟩) ?_ ?_
 rotate_left
 ·simp only [Act.put, sA, sB, sC]; rfl
 refine pure_ (i := 22) (N := some 26) (v := undef) (a' := ?_) z209 rfl rfl (by kernel_rfl) (fun _ _ _ h => h) (Or.inr ⟨by rfl, rfl⟩) ?_ ?_
 rotate_left
 ·simp only [Act.put, sA, sB, sC]; rfl
 refine pure_ (i := 23) (N := some 27) (v := undef) (a' := ?_) z210 rfl rfl (by kernel_rfl) (fun _ _ _ h => h) (Or.inr ⟨by rfl, rfl⟩) ?_ ?_
 rotate_left
 ·simp only [Act.put, sA, sB, sC]; rfl
 refine pure_ (i := 24) (N := some 28) (v := undef) (a' := ?_) z211 rfl rfl (by kernel_rfl) (fun _ _ _ h => h) (Or.inr ⟨by rfl, rfl⟩) ?_ ?_
 rotate_left
 ·simp only [Act.put, sA, sB, sC]; rfl
 refine stq 25 29 z212 ?_
 refine stq 26 30 z213 ?_
 refine stq 27 31 z214 ?_
 refine one_ (i := 28) (N := none) z215 rfl rfl (by kernel_rfl) (by decide) (fun K hK => ?_)
 refine skip_ (w1 := ?_) (by rfl) rfl ?_ ?_
 rotate_left
 ·go_simp; try rfl
 refine hK.out _ _ (hkey _ _ _ ⟨g0, g1, g2⟩) (fun hHeld => ?_)
 clear hK K
 refine stq 29 3 z216 ?_
 refine done_ (by kernel_rfl) ?_
 go_wp2_with fail
 exact ⟨rfl, _, results_ct Tryz.results12 _ _ (w.heap.size + 1) 29 _ (0, 0) _ rfl (box2 d1 _ _) Tryz.underlying29 rfl (by kernel_rfl), _, rfl,
  Reads.other ⟨A1, c1, rfl, hc1, hC1⟩ d1 (noInt2 _ _ _ _ _) (put2_heap _ _ _ _), put2_below (below_then' hbel hb1) (Nat.le_succ _) _ _⟩
theorem vaWhole_any {w : World} {v : Value} {xs : List Nat} (neg : Bool) (h : Reads .u8 w v xs) (hb : ∀ x ∈ xs, x < 256) (hl : xs.length ≤ 2147483648) :
  Calls Tryz.prog 12 #[.agg #[.bool neg, v]] w fun e w' => ∃ r, e = .returned (.tuple #[.agg #[.bool neg, r], .bool (okW neg xs)]) ∧ NatS w' r (beVal xs) ∧ Below w.heap.size w w' := by
 have hr := h
 obtain ⟨A, c, rfl, hc, hC⟩ := h
 cases xs with
 | nil => cases neg with
  | true => exact vaWhole_zt hr
  | false => exact vaWhole_zf hr
 | cons x ys =>
  obtain ⟨a, rfl, hx⟩ := hr.cells 0 (by simp)
  have hadd : a.add 0 = a := by cases a; simp [Addr.add]
  rw [hadd] at hx
  have hx : w.cell? a = some (.int .u8 (x : Int)) := hx
  by_cases h0 : x = 0
  ·have e : okW neg (x :: ys) = false := by simp [okW, h0]
   rw [e]
   subst h0
   exact vaWhole_o neg hr hb hl (by simp) hx
  ·have e : okW neg (x :: ys) = true := by simp [okW, h0]
   rw [e]
   cases neg with
   | true => exact vaWhole_pt hr hb hl (by simp) x hx h0
   | false => exact vaWhole_pf hr hb hl (by simp) x hx h0
end Go.Proofs.YtgamldefngehlaaGreatDoor
