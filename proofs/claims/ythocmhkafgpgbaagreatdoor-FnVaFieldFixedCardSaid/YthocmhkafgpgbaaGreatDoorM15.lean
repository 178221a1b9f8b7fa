/- Parts of the walk. -/
import Derived.Test.YthocmhkafgpgbaaGreatDoorM14
set_option linter.unusedVariables false
set_option linter.unusedSimpArgs false
namespace Go.Proofs.YthocmhkafgpgbaaGreatDoor
open Go.RowKit
open Go.Proofs.YthocmhkafgpgbaaGreatDoorW.PrintLast
set_option maxRecDepth 100000 in
theorem ratNum_any (w : World) (g : Nat) : Calls Tryz.prog 129 #[.pointer (some ⟨g, 0, none⟩)] w fun e w' => e = .returned (.pointer (some ⟨g, 0, none⟩)) ∧ w' = w := by
 go_enter Tryz.func129, Tryz.ntmps129
 go_wp2_with fail
 go_ret
 exact ⟨rfl, rfl⟩
set_option maxRecDepth 100000 in
theorem ratDenom_any (w : World) (base g n d : Nat) (s s' : Bool) (v u : Value) (h : RatAt w base g s s' v u n d) (hd : d ≠ 0) : Calls Tryz.prog 130 #[.pointer (some ⟨g, 0, none⟩)] w fun e w' => e = .returned (.pointer (some ⟨g, 2, none⟩)) ∧ w' = w := by
 obtain ⟨pu, ku, rfl⟩ := NatRow.form h.den.nat
 have c3 := h.den.abs
 have t2 : (((digs WB d).length : Int) == 0) = false := by have := (digs_len_pos WB_one (n := d)).2 hd; exact beq_eq_false_iff_ne.2 (by omega)
 have t3 : ¬ ((digs WB d).length : Int) = 0 := by have := (digs_len_pos WB_one (n := d)).2 hd; omega
 clear h
 go_enter Tryz.func130, Tryz.ntmps130
 go_wp2_with fail
 go_ret
 exact ⟨rfl, rfl⟩
theorem ratNorm_all (w : World) (base g n d : Nat) (s : Bool) (v u : Value) (h : RatAt w base g s false v u n d) (hB : base ≤ w.heap.size) (hd : d ≠ 0) (hs : n < WB ∨ d < WB) (hln : (digs WB n).length ≤ 1000) (hld : (digs WB d).length ≤ 1000) :
  Calls Tryz.prog 138 #[.pointer (some ⟨g, 0, none⟩)] w fun e w' => ∃ v' u', e = .returned (.pointer (some ⟨g, 0, none⟩)) ∧ RatOut w w' base g v u (decide (n ≠ 0) && s) false v' u' (n / Nat.gcd n d) (d / Nat.gcd n d) := by
 by_cases hn : n = 0
 ·subst hn
  refine (ratNorm_zero w base g d s false v u h hB).mono ?_
  rintro e w' ⟨u', rfl, ho⟩
  refine ⟨v, u', rfl, ?_⟩
  rw [Nat.gcd_zero_left, Nat.zero_div, Nat.div_self (by omega)]
  simpa using ho
 ·refine (ratNorm_any w base g n d s false v u h hB hn hd hs hln hld).mono ?_
  rintro e w' ⟨v', u', rfl, ho⟩
  exact ⟨v', u', rfl, by simpa [hn] using ho⟩
set_option maxRecDepth 100000 in
set_option maxHeartbeats 2000000 in
theorem setFrac_any (w : World) (base bx by_ g gx ox gy oy nx ny : Nat) (sx sy t : Bool) (xv yv : Value) (h : RatAt w base g t false (.slice none 0 0) (.slice none 0 0) 0 0) (hx : IntAt w bx gx ox sx xv nx) (hy : IntAt w by_ gy oy sy yv ny) (hgx : gx ≠ g) (hgy : gy ≠ g) (hB : base ≤ w.heap.size)
  (hd : ny ≠ 0) (hs : nx < WB ∨ ny < WB) (hlx : (digs WB nx).length ≤ 1000) (hly : (digs WB ny).length ≤ 1000) :
  Calls Tryz.prog 64 #[.pointer (some ⟨g, 0, none⟩), .pointer (some ⟨gx, ox, none⟩), .pointer (some ⟨gy, oy, none⟩)] w fun e w' => ∃ v' u', e = .returned (.pointer (some ⟨g, 0, none⟩)) ∧ RatOut w w' base g (.slice none 0 0) (.slice none 0 0) (decide (nx ≠ 0) && (sx != sy)) false v' u' (nx / Nat.gcd nx ny) (ny / Nat.gcd nx ny) := by
 have c0 := h.num.neg
 have f0 := h.num.known.frozen 0
 have cx := hx.neg
 have cy := hy.neg
 go_enter Tryz.func64, Tryz.ntmps64
 go_wp2_with fail
 refine start_ (n := 14) (S := fun W => W.cell? ⟨gx, ox, none⟩ = some (.bool sx) ∧ W.cell? ⟨gy, oy, none⟩ = some (.bool sy)) (ds := [13]) z18 (by kernel_rfl) rfl rfl ⟨cx, cy⟩ (fun hHeld => ?_)
 refine pure_ (i := 0) (N := some 8) (v := ?_) (a' := ?_) z19 rfl rfl (by kernel_rfl) (fun _ _ _ h => h) (Or.inl ⟨by rfl, ?_⟩) ?_ ?_
 rotate_left
 ·intro w'; go_simp; try with_reducible rfl
 rotate_left
 ·simp only [Act.put, sA, sB, sC]; rfl
 refine pure_ (i := 1) (N := some 9) (v := ?_) (a' := ?_) z20 rfl rfl (by kernel_rfl) (fun _ _ _ h => h) (Or.inl ⟨by rfl, ?_⟩) ?_ ?_
 rotate_left
 ·intro w'; go_simp; try with_reducible rfl
 rotate_left
 ·simp only [Act.put, sA, sB, sC]; rfl
 refine pure_ (i := 2) (N := some 10) (v := ?_) (a' := ?_) z21 rfl rfl (by kernel_rfl) (fun _ _ _ h => h) (Or.inl ⟨by rfl, ?_⟩) ?_ ?_
 rotate_left
 ·intro w'; go_simp; try with_reducible rfl
 rotate_left
 ·simp only [Act.put, sA, sB, sC]; rfl
 refine pure_ (i := 3) (N := some 11) (v := ?_) (a' := ?_) z22 rfl rfl (by kernel_rfl) (fun _ _ _ h => h) (Or.inl ⟨by rfl, ?_⟩) ?_ ?_
 rotate_left
 ·intro w'; go_simp; try with_reducible rfl
 rotate_left
 ·simp only [Act.put, sA, sB, sC]; rfl
 refine take_ (i := 4) (N := some 12) (v := ?_) (a' := ?_) z23 rfl rfl (by kernel_rfl) (fun _ _ _ h => h) (Or.inl ⟨by rfl, ?_⟩) hHeld ?_ ?_
 rotate_left
 ·rintro w' ⟨s0, s1⟩; go_simp; try with_reducible rfl
 rotate_left
 ·simp only [Act.put, sA, sB, sC]; rfl
 refine pure_ (i := 5) (N := some 13) (v := ?_) (a' := ?_) z24 rfl rfl (by kernel_rfl) (fun _ _ _ h => h) (Or.inl ⟨by rfl, ?_⟩) ?_ ?_
 rotate_left
 ·intro w'; go_simp; try with_reducible rfl
 rotate_left
 ·simp only [Act.put, sA, sB, sC]; rfl
 refine pure_ (i := 6) (N := some 14) (v := ?_) (a' := ?_) z25 rfl rfl (by kernel_rfl) (fun _ _ _ h => h) (Or.inl ⟨by rfl, ?_⟩) ?_ ?_
 rotate_left
 ·intro w'; go_simp; try with_reducible rfl
 rotate_left
 ·simp only [Act.put, sA, sB, sC]; rfl
 refine pure_ (i := 7) (N := some 15) (v := ?_) (a' := ?_) z26 rfl rfl (by kernel_rfl) (fun _ _ _ h => h) (Or.inl ⟨by rfl, ?_⟩) ?_ ?_
 rotate_left
 ·intro w'; go_simp; try with_reducible rfl
 rotate_left
 ·simp only [Act.put, sA, sB, sC]; rfl
 refine take_ (i := 8) (N := some 16) (v := ?_) (a' := ?_) z27 rfl rfl (by kernel_rfl) (fun _ _ _ h => h) (Or.inl ⟨by rfl, ?_⟩) hHeld ?_ ?_
 rotate_left
 ·rintro w' ⟨s0, s1⟩; go_simp; try with_reducible rfl
 rotate_left
 ·simp only [Act.put, sA, sB, sC]; rfl
 refine pure_ (i := 9) (N := some 17) (v := ?_) (a' := ?_) z28 rfl rfl (by kernel_rfl) (fun _ _ _ h => h) (Or.inl ⟨by rfl, ?_⟩) ?_ ?_
 rotate_left
 ·intro w'; go_simp; try with_reducible rfl
 rotate_left
 ·simp only [Act.put, sA, sB, sC]; rfl
 refine pure_ (i := 10) (N := some 18) (v := ?_) (a' := ?_) z29 rfl rfl (by kernel_rfl) (fun _ _ _ h => h) (Or.inl ⟨by rfl, ?_⟩) ?_ ?_
 rotate_left
 ·intro w'; go_simp; try with_reducible rfl
 rotate_left
 ·simp only [Act.put, sA, sB, sC]; rfl
 refine pure_ (i := 11) (N := some 19) (v := ?_) (a' := ?_) z30 rfl rfl (by kernel_rfl) (fun _ _ _ h => h) (Or.inl ⟨by rfl, ?_⟩) ?_ ?_
 rotate_left
 ·intro w'; go_simp; try with_reducible rfl
 rotate_left
 ·simp only [Act.put, sA, sB, sC]; rfl
 refine pure_ (i := 12) (N := some 20) (v := ?_) (a' := ?_) z31 rfl rfl (by kernel_rfl) (fun _ _ _ h => h) (Or.inl ⟨by rfl, ?_⟩) ?_ ?_
 rotate_left
 ·intro w'; go_simp; try with_reducible rfl
 rotate_left
 ·simp only [Act.put, sA, sB, sC]; rfl
 refine last_ (i := 13) (N := none) z32 rfl rfl (by kernel_rfl) (by decide) (fun K hK => ?_)
 refine skip_ (w1 := ?_) (by rfl) rfl ?_ ?_
 rotate_left
 ·go_simp; try rfl
 refine hK.out _ _ ?_
 clear hK K
 refine done_ (by kernel_rfl) ?_
 have h1 := (h.putNeg (!(sx == sy))).drewN 1
 change RatOut w (w.setCell ⟨g, 0, none⟩ (.bool (!(sx == sy)))).drew _ _ _ _ _ _ _ _ _ _ at h1
 have hxg := NatRow.apart hx.nat h.num.neg
 have hyg := NatRow.apart hy.nat h.num.neg
 have k1 : Keeps (fun k => k = g) w (w.setCell ⟨g, 0, none⟩ (.bool (!(sx == sy)))).drew := ((Keeps.refl _ _).one 0 _).drew
 have hx1 := hx.kept k1 hgx (fun k hk e => hxg (by rw [hk, e]))
 have hy1 := hy.kept k1 hgy (fun k hk e => hyg (by rw [hk, e]))
 have hkn : Known (w.setCell ⟨g, 0, none⟩ (.bool (!(sx == sy)))).drew g := h1.at_.num.known
 have hB1 : base ≤ (w.setCell ⟨g, 0, none⟩ (.bool (!(sx == sy)))).drew.heap.size := Nat.le_trans hB k1.size
 generalize (w.setCell ⟨g, 0, none⟩ (.bool (!(sx == sy)))).drew = w1 at *
 have hcy := hy1.abs
 have hcx := hx1.abs
 have ha0 := h1.at_.num.abs
 have hb0 := h1.at_.den.abs
 rw [Nat.zero_add] at ha0
 obtain ⟨py, ky, rfl⟩ := NatRow.form hy.nat
 have t1 : (((digs WB ny).length : Int) == 0) = false := by have := (digs_len_pos WB_one (n := ny)).2 hd; exact beq_eq_false_iff_ne.2 (by omega)
 have hE := intEq w1 ⟨g, 0, none⟩ ⟨gy, oy, none⟩ hkn hy1.known
 rw [decide_eq_false (show ¬ (⟨g, 0, none⟩ : Addr) = ⟨gy, oy, none⟩ by simp [hgy.symm])] at hE
 have hA := alias_any w1 base by_ (.slice none 0 0) _ [] _ (.nil _ _) hy1.nat
 rw [sameBlk_nil] at hA
 have hA := Lib.hid hA
 clear c0 f0 cx cy
 go_wp2_with fail
 refine hA.out.mono ?_
 rintro e w0 ⟨rfl, q, rfl⟩
 have h2 : RatOut w (w1.drewN q) base g (.slice none 0 0) (.slice none 0 0) (!(sx == sy)) false (.slice none 0 0) (.slice none 0 0) 0 0 := h1.drewN q
 have hx2 := hx1.drewN q
 have hy2 := hy1.drewN q
 have hB2 : base ≤ (w1.drewN q).heap.size := hB1
 have k2 : Keeps (fun k => k = g) w (w1.drewN q) := k1.drewN q
 generalize w1.drewN q = w2 at *
 clear hcy hcx ha0 hb0 h1 hx1 hy1 hB1 k1 hE hA hkn t1
 have hcx := hx2.abs
 have ha0 := h2.at_.num.abs
 rw [Nat.zero_add] at ha0
 go_wp2_with fail
 refine start_ (n := 15) (S := fun W => W.cell? ⟨g, 1, none⟩ = some (.slice none 0 0) ∧ W.cell? ⟨gx, ox + 1, none⟩ = some xv) (ds := [10, 14]) z33 (by kernel_rfl) rfl rfl ⟨ha0, hcx⟩ (fun hHeld => ?_)
 refine pure_ (i := 0) (N := some 45) (v := ?_) (a' := ?_) z34 rfl rfl (by kernel_rfl) (fun _ _ _ h => h) (Or.inl ⟨by rfl, ?_⟩) ?_ ?_
 rotate_left
 ·intro w'; go_simp; try with_reducible rfl
 rotate_left
 ·simp only [Act.put, sA, sB, sC]; rfl
 refine pure_ (i := 1) (N := some 46) (v := ?_) (a' := ?_) z35 rfl rfl (by kernel_rfl) (fun _ _ _ h => h) (Or.inl ⟨by rfl, ?_⟩) ?_ ?_
 rotate_left
 ·intro w'; go_simp; try with_reducible rfl
 rotate_left
 ·simp only [Act.put, sA, sB, sC]; rfl
 refine pure_ (i := 2) (N := some 47) (v := ?_) (a' := ?_) z36 rfl rfl (by kernel_rfl) (fun _ _ _ h => h) (Or.inl ⟨by rfl, ?_⟩) ?_ ?_
 rotate_left
 ·intro w'; go_simp; try with_reducible rfl
 rotate_left
 ·simp only [Act.put, sA, sB, sC]; rfl
 refine pure_ (i := 3) (N := some 48) (v := ?_) (a' := ?_) z37 rfl rfl (by kernel_rfl) (fun _ _ _ h => h) (Or.inl ⟨by rfl, ?_⟩) ?_ ?_
 rotate_left
 ·intro w'; go_simp; try with_reducible rfl
 rotate_left
 ·simp only [Act.put, sA, sB, sC]; rfl
 refine pure_ (i := 4) (N := some 49) (v := ?_) (a' := ?_) z38 rfl rfl (by kernel_rfl) (fun _ _ _ h => h) (Or.inl ⟨by rfl, ?_⟩) ?_ ?_
 rotate_left
 ·intro w'; go_simp; try with_reducible rfl
 rotate_left
 ·simp only [Act.put, sA, sB, sC]; rfl
 refine take_ (i := 5) (N := some 50) (v := ?_) (a' := ?_) z39 rfl rfl (by kernel_rfl) (fun _ _ _ h => h) (Or.inl ⟨by rfl, ?_⟩) hHeld ?_ ?_
 rotate_left
 ·rintro w' ⟨s0, s1⟩; go_simp; try with_reducible rfl
 rotate_left
 ·simp only [Act.put, sA, sB, sC]; rfl
 refine pure_ (i := 6) (N := some 51) (v := ?_) (a' := ?_) z40 rfl rfl (by kernel_rfl) (fun _ _ _ h => h) (Or.inl ⟨by rfl, ?_⟩) ?_ ?_
 rotate_left
 ·intro w'; go_simp; try with_reducible rfl
 rotate_left
 ·simp only [Act.put, sA, sB, sC]; rfl
 refine pure_ (i := 7) (N := some 52) (v := ?_) (a' := ?_) z41 rfl rfl (by kernel_rfl) (fun _ _ _ h => h) (Or.inl ⟨by rfl, ?_⟩) ?_ ?_
 rotate_left
 ·intro w'; go_simp; try with_reducible rfl
 rotate_left
 ·simp only [Act.put, sA, sB, sC]; rfl
 refine pure_ (i := 8) (N := some 53) (v := ?_) (a' := ?_) z42 rfl rfl (by kernel_rfl) (fun _ _ _ h => h) (Or.inl ⟨by rfl, ?_⟩) ?_ ?_
 rotate_left
 ·intro w'; go_simp; try with_reducible rfl
 rotate_left
 ·simp only [Act.put, sA, sB, sC]; rfl
 refine take_ (i := 9) (N := some 54) (v := ?_) (a' := ?_) z43 rfl rfl (by kernel_rfl) (fun _ _ _ h => h) (Or.inl ⟨by rfl, ?_⟩) hHeld ?_ ?_
 rotate_left
 ·rintro w' ⟨s0, s1⟩; go_simp; try with_reducible rfl
 rotate_left
 ·simp only [Act.put, sA, sB, sC]; rfl
 refine last_ (i := 10) (N := some 55) z44 rfl rfl (by kernel_rfl) (by decide) (fun K hK => ?_)
 refine goes_ Tryz.func137 (by kernel_rfl) rfl #[.slice none 0 0, xv] (by rfl) rfl rfl (by first | rfl | simp [Act.eval]) ?_
 refine (set_any w2.drew base _ (.slice none 0 0) xv [] _ (.nil _ _) hx2.nat hB2 (by omega)).mono ?_
 rintro e w3 ⟨v3, rfl, ho3⟩
 have ho3 := ho3.undrew
 obtain ⟨p3, k3, rfl⟩ := NatRow.form ho3.row
 have ho3 : NatOut w2 w3 base (.slice none 0 0) (.slice p3 (digs WB nx).length k3) (digs WB nx) := ho3
 obtain ⟨m1, m2⟩ := midRat h2.at_ ho3 (.inl rfl) 1 _ ha0
 refine ⟨_, rfl, ?_⟩
 refine hK.out _ _ ?_
 clear hK K
 try clear hHeld
 refine norm_ (a' := ?_) ?_ ?_
 rotate_left
 ·simp only [Act.put, sA, sB, sC]; rfl
 refine pure_ (i := 11) (N := some 56) (v := ?_) (a' := ?_) z45 rfl rfl (by kernel_rfl) (fun _ _ _ h => h) (Or.inl ⟨by rfl, ?_⟩) ?_ ?_
 rotate_left
 ·intro w'; go_simp; try with_reducible rfl
 rotate_left
 ·simp only [Act.put, sA, sB, sC]; rfl
 refine pure_ (i := 12) (N := some 57) (v := ?_) (a' := ?_) z46 rfl rfl (by kernel_rfl) (fun _ _ _ h => h) (Or.inl ⟨by rfl, ?_⟩) ?_ ?_
 rotate_left
 ·intro w'; go_simp; try with_reducible rfl
 rotate_left
 ·simp only [Act.put, sA, sB, sC]; rfl
 refine pure_ (i := 13) (N := some 58) (v := ?_) (a' := ?_) z47 rfl rfl (by kernel_rfl) (fun _ _ _ h => h) (Or.inl ⟨by rfl, ?_⟩) ?_ ?_
 rotate_left
 ·intro w'; go_simp; try with_reducible rfl
 rotate_left
 ·simp only [Act.put, sA, sB, sC]; rfl
 refine last_ (i := 14) (N := none) z48 rfl rfl (by kernel_rfl) (by decide) (fun K hK => ?_)
 refine skip_ (w1 := ?_) (by rfl) rfl ?_ ?_
 rotate_left
 ·go_simp; try rfl
 refine hK.out _ _ ?_
 clear hK K
 refine done_ (by kernel_rfl) ?_
 have hq := h2.at_.putNum (n' := nx) ho3
 have h4 := h2.trans hq
 have hyg2 : ∀ k, (Value.slice py (digs WB ny).length ky).ownBlock = some k → ¬ (k = g ∨ (Value.slice none 0 0).ownBlock = some k ∨ (Value.slice none 0 0).ownBlock = some k) := fun k hk e => by
  rcases e with e | e | e
  ·exact hyg (by rw [hk, e])
  ·simp [Value.ownBlock] at e
  ·simp [Value.ownBlock] at e
 have hy4 := NatRow.kept hy2.nat hq.keep hyg2
 have s4 := hq.keep.size
 generalize w3.setCell ⟨g, 1, none⟩ (.slice p3 (digs WB nx).length k3) = w4 at *
 have hB4 : base ≤ w4.heap.size := Nat.le_trans hB2 s4
 have hb4 := h4.at_.den.abs
 have hS := Lib.hid (set_any w4 base _ (.slice none 0 0) _ [] _ (.nil _ _) hy4 hB4 (by omega))
 clear m1 m2 hq ha0 hcx
 go_wp2_with fail
 refine hS.out.mono ?_
 rintro e w5 ⟨u5, rfl, ho5⟩
 obtain ⟨p5, k5, rfl⟩ := NatRow.form ho5.row
 have ho5' : NatOut w4 w5 base (.slice none 0 0) (.slice p5 (digs WB ny).length k5) (digs WB ny) := ho5
 obtain ⟨m1, m2⟩ := midRat h4.at_ ho5' (.inr rfl) 3 _ hb4
 have hq5 := h4.at_.putDen (d' := ny) ho5'
 have h6 := h4.trans hq5
 have s6 := hq5.keep.size
 clear hq5 ho5 ho5'
 have hB6 : base ≤ (w5.setCell ⟨g, 3, none⟩ (.slice p5 (digs WB ny).length k5)).heap.size := Nat.le_trans hB4 s6
 have hN := Lib.hid (ratNorm_all _ base g nx ny _ _ _ h6.at_ hB6 hd hs hlx hly)
 have hfin := Lib.hid h6
 clear h6 s6
 go_wp2_with fail
 refine hN.out.mono ?_
 rintro e w7 ⟨v', u', rfl, ho7⟩
 have hfin := Lib.hid (hfin.out.trans ho7)
 go_wp2_with fail
 go_ret
 exact ⟨v', u', rfl, hfin.out⟩
end Go.Proofs.YthocmhkafgpgbaaGreatDoor
namespace Go.Proofs.YthocmhkafgpgbaaGreatDoor
open Go.RowKit
structure RatNew (w w' : World) (g : Nat) (s : Bool) (v u : Value) (n d : Nat) : Prop where
 at_ : RatAt w' w.heap.size g s false v u n d
 keep : Keeps (fun _ => False) w w'
 ge : w.heap.size ≤ g
theorem newRatAt (w : World) (base : Nat) : RatAt (w.alloc (.cells #[.bool false, .slice none 0 0, .bool false, .slice none 0 0] 145)) base w.heap.size false false (.slice none 0 0) (.slice none 0 0) 0 0 := by
 have hb := blk_new w (.cells #[.bool false, .slice none 0 0, .bool false, .slice none 0 0] 145 (0, 0))
 have hn : ∀ w', NatAt w' base (.slice none 0 0) 0 := fun w' => by unfold NatAt; rw [digs_zero]; exact .nil _ _
 exact ⟨⟨⟨_, _, hb⟩, by rw [cellOf hb]; rfl, by rw [cellOf hb]; rfl, hn _⟩, ⟨⟨_, _, hb⟩, by rw [cellOf hb]; rfl, by rw [cellOf hb]; rfl, hn _⟩, fun k h => by simp [Value.ownBlock] at h⟩
theorem RatOut.new {w w1 w2 : World} {g n d : Nat} {s : Bool} {v u : Value} (h : RatOut w1 w2 w.heap.size g (.slice none 0 0) (.slice none 0 0) s false v u n d) (hk : Keeps (fun _ => False) w w1) (hg : w.heap.size ≤ g) : RatNew w w2 g s v u n d :=
 ⟨h.at_, hk.trans h.keep (fun k hk e => by rcases e with e | e | e; omega; simp [Value.ownBlock] at e; simp [Value.ownBlock] at e), hg⟩
set_option maxRecDepth 100000 in
theorem fixedToRat_any (w : World) (bm gm om nm scale : Nat) (sm : Bool) (mv : Value) (hm : IntAt w bm gm om sm mv nm) (hsc : scale ≤ 15) (hlm : (digs WB nm).length ≤ 1000) (hg : Thr w) (hGL : GL ≤ w.heap.size) :
  Calls Tryz.prog 244 #[.pointer (some ⟨gm, om, none⟩), .int .i64 scale] w fun e w' => ∃ g v u, e = .returned (.pointer (some ⟨g, 0, none⟩)) ∧ RatNew w w' g (decide (nm ≠ 0) && sm) v u (nm / Nat.gcd nm (10 ^ scale)) (10 ^ scale / Nat.gcd nm (10 ^ scale)) := by
 have hp : 10 ^ scale < WB := by rw [WB_eq]; exact Nat.lt_of_le_of_lt (Nat.pow_le_pow_right (by omega) hsc) (by omega)
 have hp0 : 10 ^ scale ≠ 0 := by have := Nat.pow_pos (n := scale) (show 0 < 10 by omega); omega
 have hlp : (digs WB (10 ^ scale)).length ≤ 1 := (digs_length_le WB_one).2 (by rw [Nat.pow_one]; exact hp)
 have t0 : ¬ (scale : Int) < 0 := by omega
 have hE := Lib.hid (exp10_any w scale (by omega) (by omega) hg hGL)
 go_enter Tryz.func244, Tryz.ntmps244
 go_wp2_with fail
 refine hE.out.mono ?_
 rintro e w1 ⟨gq, qv, rfl, hq⟩
 generalize hP : 10 ^ scale = P at *
 have k2 := (Keeps.refl (fun _ => False) w1).alloc (.cells #[.bool false, .slice none 0 0, .bool false, .slice none 0 0] 145)
 have hr := newRatAt w1 w.heap.size
 have hs1 := hq.keep.size
 have hS := setFrac_any (w1.alloc (.cells #[.bool false, .slice none 0 0, .bool false, .slice none 0 0] 145)) w.heap.size bm w.heap.size w1.heap.size gm om gq 0 nm P sm false false mv qv hr ((hm.kept hq.keep (fun h => h) (fun _ _ h => h)).kept k2 (fun h => h) (fun _ _ h => h)) (hq.at_.kept k2 (fun h => h) (fun _ _ h => h)) (by have := hm.known.lt; omega) (by have := hq.at_.known.lt; omega) (Nat.le_trans hs1 k2.size) hp0 (.inr hp) hlm (by omega)
 have hS := Lib.hid hS
 have hkk : Keeps (fun _ => False) w (w1.alloc (.cells #[.bool false, .slice none 0 0, .bool false, .slice none 0 0] 145)) := hq.keep.trans k2 (fun _ _ h => h)
 clear hq hr k2 hm
 go_wp2_with fail
 refine hS.out.mono ?_
 rintro e w2 ⟨v, u, rfl, ho⟩
 have hfin := Lib.hid (ho.new hkk hs1)
 go_wp2_with fail
 go_ret
 refine ⟨w1.heap.size, v, u, rfl, ?_⟩
 rw [hP]
 have := hfin.out
 simpa using this
end Go.Proofs.YthocmhkafgpgbaaGreatDoor
namespace Go.Proofs.YthocmhkafgpgbaaGreatDoor
open Go.RowKit
open Go.Proofs.YthocmhkafgpgbaaGreatDoorW.PrintLast
theorem addrNe {a b i j : Nat} (h : a ≠ b) : (⟨a, i, none⟩ : Addr) ≠ ⟨b, j, none⟩ := fun e => h (by injection e)
set_option maxRecDepth 100000 in
theorem ratToFixed_any (w : World) (br gr gm n d N sc : Nat) (s sm : Bool) (v u : Value) (hr : RatAt w br gr s false v u n d) (hm : IntAt w w.heap.size gm 0 sm (.slice none 0 0) 0) (hne : gm ≠ gr) (hsc : sc ≤ 15)
  (hd : d ≠ 0) (hdW : d < WB) (hN : n * 10 ^ sc = N * d) (hlt : N < 10 ^ 38) (hln : (digs WB n).length < 40) (hle : (digs WB (n * 10 ^ sc)).length ≤ 1000) (hg : Thr w) (hGL : GL ≤ w.heap.size) (hmG : GL ≤ gm) :
  Calls Tryz.prog 231 #[.pointer (some ⟨gr, 0, none⟩), .pointer (some ⟨gm, 0, none⟩), .int .i64 38, .int .i64 sc] w fun e w' => ∃ v', e = .returned (.int .u8 0) ∧ IntAt w' w.heap.size gm 0 (decide (N ≠ 0) && s) v' N ∧ Keeps (fun k => k = gm) w w' := by
 have hp : 10 ^ sc < WB := by rw [WB_eq]; exact Nat.lt_of_le_of_lt (Nat.pow_le_pow_right (by omega) hsc) (by omega)
 have hlp : (digs WB (10 ^ sc)).length ≤ 1 := (digs_length_le WB_one).2 (by rw [Nat.pow_one]; exact hp)
 have hlp9 : (digs WB (10 ^ sc)).length ≤ 9 := by omega
 have hl38 : (digs WB (10 ^ 38)).length ≤ 9 := Nat.le_trans ((digs_length_le (k := 3) WB_one).2 (by rw [WB_eq]; decide)) (by omega)
 have hlN : (digs WB N).length ≤ 9 := Nat.le_trans ((digs_length_le (k := 3) WB_one).2 (by rw [WB_eq]; exact Nat.lt_of_lt_of_le hlt (by decide))) (by omega)
 have hgc : Nat.gcd (n * 10 ^ sc) d = d := by rw [hN]; exact Nat.gcd_mul_left_left N d
 have t0 : ¬ (sc : Int) < 0 := by omega
 have hNum := Lib.hid (ratNum_any w gr)
 have hgl := hm.known.lt
 have hgr := hr.num.known.lt
 have hSet := Lib.hid (intSet_any w w.heap.size br gm 0 gr 0 0 n sm s (.slice none 0 0) v hm hr.num (by simp [hne]) (Nat.le_refl _) (by omega))
 have hr' := Lib.hid hr
 have hm' := Lib.hid hm
 obtain ⟨B, hB⟩ : ∃ B, B = w.heap.size := ⟨_, rfl⟩
 replace hB := Lib.hid hB
 clear hr hm
 go_enter Tryz.func231, Tryz.ntmps231
 go_wp2_with fail
 refine hNum.out.mono ?_
 rintro e w1 ⟨rfl, hw1⟩
 obtain rfl := hw1.symm
 go_wp2_with fail
 refine hSet.out.mono ?_
 rintro e w1 ⟨v1, rfl, ho⟩
 have k1 : Keeps (fun k => k = gm) w w1 := ho.keep.mono (fun k _ h => h.resolve_right (by simp [Value.ownBlock]))
 have o1 : ∀ k, v1.ownBlock = some k → w.heap.size ≤ k := fun k hk => (ho.own k hk).resolve_left (by simp [Value.ownBlock])
 have g1 := hg.kept k1 (fun k hk e => by omega)
 have hE := Lib.hid (exp10_any w1 sc (by omega) hlp9 g1 (Nat.le_trans hGL k1.size))
 have a1 := Lib.hid ho.at_
 replace k1 := Lib.hid k1
 clear ho hSet hNum
 go_wp2_with fail
 refine hE.out.mono ?_
 rintro e w2 ⟨ge, ve, rfl, hE2⟩
 generalize hP : 10 ^ sc = P at *
 have k2 := k1.out.trans hE2.keep (fun _ _ h => h.elim)
 have g2 := hg.kept k2 (fun k hk e => by omega)
 have hnge : gm ≠ ge := by have h1 := hE2.ge; have h2 := k1.out.size; omega
 have hM := Lib.hid (intMul_any w2 w.heap.size w.heap.size w1.heap.size gm 0 gm 0 ge 0 n n P s s false v1 v1 ve (a1.out.kept hE2.keep (fun h => h) (fun _ _ h => h)) (a1.out.kept hE2.keep (fun h => h) (fun _ _ h => h)) hE2.at_ (by simp [hnge]) k2.size g2 hGL hln (by omega))
 replace k2 := Lib.hid k2
 clear hE hE2
 go_wp2_with fail
 refine hM.out.mono ?_
 rintro e w3 ⟨v3, rfl, ho3⟩
 have k3 := k2.out.trans ho3.keep (fun k hk e => e.resolve_right (fun h => by have := o1 k h; omega))
 have o3 : ∀ k, v3.ownBlock = some k → w.heap.size ≤ k := fun k hk => (ho3.own k hk).elim (o1 k) (fun h => Nat.le_trans k2.out.size h)
 have r3 := hr'.out.kept k3 (fun h => hne h.symm) (fun k hk e => by have := NatRow.apart hr'.out.num.nat hm'.out.neg; exact this (by rw [hk, e])) (fun k hk e => by have := NatRow.apart hr'.out.den.nat hm'.out.neg; exact this (by rw [hk, e]))
 have a3 := Lib.hid ho3.at_
 clear ho3 hM
 have r3 := Lib.hid r3
 go_wp2_with fail
 have hD := Lib.hid (ratDenom_any (w3.alloc (.cells #[.bool false, .slice none 0 0, .bool false, .slice none 0 0] 145)) br gr n d s false v u (r3.out.kept ((Keeps.refl (fun _ => False) w3).alloc _) (fun h => h) (fun _ _ h => h) (fun _ _ h => h)) hd)
 have k4 := (Keeps.refl (fun _ => False) w3).alloc (.cells #[.bool false, .slice none 0 0, .bool false, .slice none 0 0] 145)
 have hF := setFrac_any (w3.alloc (.cells #[.bool false, .slice none 0 0, .bool false, .slice none 0 0] 145)) w.heap.size w.heap.size br w3.heap.size gm 0 gr 2 (n * P) d _ false false v3 u (newRatAt w3 w.heap.size) (a3.out.kept k4 (fun h => h) (fun _ _ h => h)) ((r3.out.kept k4 (fun h => h) (fun _ _ h => h) (fun _ _ h => h)).den) (by have := k3.size; omega) (by have := k3.size; omega) (Nat.le_trans k3.size k4.size) hd (.inr hdW) hle (by have := (digs_length_le (k := 1) WB_one).2 (by rw [Nat.pow_one]; exact hdW); omega)
 have e1 : n * P / d = N := by rw [hN]; exact Nat.mul_div_cancel N (by omega)
 have e2 : d / d = 1 := Nat.div_self (by omega)
 rw [hgc, e1, e2] at hF
 generalize hsg : (decide (n * P ≠ 0) && (decide (n * P ≠ 0) && (s != false)) != false) = sg at hF
 have hsg' : sg = (decide (N ≠ 0) && s) := by
  rw [← hsg, hN]
  have : (N * d ≠ 0) ↔ N ≠ 0 := by constructor <;> intro h hh <;> simp_all
  simp only [this]
  cases s <;> cases decide (N ≠ 0) <;> rfl
 replace hsg' := Lib.hid hsg'
 replace hF := Lib.hid hF
 replace hP := Lib.hid hP
 replace hN := Lib.hid hN
 replace k3 := Lib.hid k3
 replace k4 := Lib.hid k4
 clear hsg hgc e1 e2 hle hr' hm' r3 hln hdW hp hlp hlp9 k2 k1 a1 g1 g2
 have hsz4 : (w3.alloc (.cells #[.bool false, .slice none 0 0, .bool false, .slice none 0 0] 145)).heap.size = w3.heap.size + 1 := by simp
 replace hsz4 := Lib.hid hsz4
 go_wp2_with fail
 refine hD.out.mono ?_
 rintro e w5 ⟨rfl, hw5⟩
 obtain rfl := hw5.symm
 go_wp2_with fail
 refine hF.out.mono ?_
 rintro e w5 ⟨v5, u5, rfl, ho5⟩
 have l3 : w.heap.size ≤ w3.heap.size := k3.out.size
 have kf : Keeps (fun k => k = w3.heap.size) (w3.alloc (.cells #[.bool false, .slice none 0 0, .bool false, .slice none 0 0] 145)) w5 := ho5.keep.mono (fun k _ e => by rcases e with e | e | e; exact e; simp [Value.ownBlock] at e; simp [Value.ownBlock] at e)
 have o5 : ∀ k, v5.ownBlock = some k → w3.heap.size < k := fun k hk => by
  have h4 := hsz4.out
  rcases ho5.own k (.inl hk) with e | e | e
  ·simp [Value.ownBlock] at e
  ·simp [Value.ownBlock] at e
  ·omega
 have a5 := Lib.hid ((a3.out.kept k4.out (fun h => h) (fun _ _ h => h)).kept kf (by omega) (fun k hk e => by have := (NatRow.lt a3.out.nat k hk).2; omega))
 have k5 := Lib.hid ((k3.out.trans k4.out (fun k hk e => e.elim)).trans kf (fun k hk e => by omega))
 have ap5 : ∀ k, v3.ownBlock = some k → v5.ownBlock ≠ some k := fun k hk h => by have := (NatRow.lt a3.out.nat k hk).2; have := o5 k h; omega
 have l5 : w3.heap.size < w5.heap.size := by have := kf.size; have := hsz4.out; omega
 have t5 := ho5.at_
 clear ho5 hF hD
 have hNum := Lib.hid (ratNum_any w5 w3.heap.size)
 have hDen := Lib.hid (ratDenom_any w5 w.heap.size w3.heap.size N 1 _ _ v5 u5 t5 (by omega))
 have hZ := Lib.hid (natZero_any w5)
 replace t5 := Lib.hid t5
 replace kf := Lib.hid kf
 generalize w3.heap.size = gt at *
 go_wp2_with fail
 refine hNum.out.mono ?_
 rintro e w6 ⟨rfl, hw6⟩
 obtain rfl := hw6.symm
 go_wp2_with fail
 refine hDen.out.mono ?_
 rintro e w6 ⟨rfl, hw6⟩
 obtain rfl := hw6.symm
 go_wp2_with fail
 refine hZ.out.mono ?_
 rintro e w6 ⟨gz, vz, rfl, hz6⟩
 have t6 := t5.out.kept hz6.keep (fun h => h) (fun _ _ h => h) (fun _ _ h => h)
 have l6 := hz6.keep.size
 have n6 := hz6.ge
 have hC := intCmp_any w6 w.heap.size w5.heap.size gt 2 gz 0 1 0 false false u5 vz t6.den hz6.at_ (by simp) (by rw [digs_small WB_one (by omega) WB_one]; decide) (by rw [digs_zero]; decide)
 rw [show cmpZ false 1 false 0 = 1 by decide] at hC
 replace hC := Lib.hid hC
 replace t6 := Lib.hid t6
 have a6 := Lib.hid (a5.out.kept hz6.keep (fun h => h) (fun _ _ h => h))
 have k6 := Lib.hid (k5.out.trans hz6.keep (fun _ _ h => h.elim))
 clear hz6 hZ hDen t5 a5 k5
 go_wp2_with fail
 refine hC.out.mono ?_
 rintro e w7 ⟨rfl, q, rfl⟩
 have t7 := t6.out
 have hQ := Lib.hid (intQuoRem_any (w6.drewN q) w.heap.size w.heap.size w.heap.size gm 0 gt 0 gt 2 gt 0 _ _ N 1 _ _ _ _ v3 v5 u5 v5 (a6.out.drewN q) (t7.num.drewN q) (t7.den.drewN q) (t7.num.drewN q) ap5 (by omega) (by have := k6.out.size; exact this) (by omega) (by omega) WB_one)
 have k7 := Lib.hid (k6.out.drewN q)
 clear hC t7
 go_wp2_with fail
 refine hQ.out.mono ?_
 rintro e w8 ⟨q8, r8, rfl, ho8⟩
 have hk8 := k7.out.trans ho8.keep (fun k hk e => by
  rcases e with e | e | e | e
  ·exact e
  ·omega
  ·have := o3 k e; omega
  ·have := o5 k e; omega)
 have hq8 := ho8.quo
 have hr8 := ho8.rem
 have o8 : ∀ k, q8.ownBlock = some k → w.heap.size ≤ k := fun k hk => (ho8.ownq k hk).elim (o3 k) (fun h => Nat.le_trans k7.out.size h)
 rw [Nat.div_one] at hq8
 rw [Nat.mod_one] at hr8
 have es : (decide (N ≠ 0) && (sg != false)) = (decide (N ≠ 0) && s) := by rw [hsg'.out]; cases s <;> cases decide (N ≠ 0) <;> rfl
 rw [es] at hq8
 have hz8 : (decide (0 ≠ 0) && sg) = false := rfl
 rw [hz8] at hr8
 have q8' := Lib.hid hq8
 have r8' := Lib.hid hr8
 have k8 := Lib.hid hk8
 have hZ := Lib.hid (natZero_any w8)
 have l8 : w.heap.size ≤ w8.heap.size := hk8.size
 clear ho8 hQ hq8 hr8 hk8 es hz8 t6 a6 k6 k7
 go_wp2_with fail
 refine hZ.out.mono ?_
 rintro e w9 ⟨gz2, vz2, rfl, hz9⟩
 have t9 := r8'.out.kept hz9.keep (fun h => h) (fun _ _ h => h)
 have n9 := hz9.ge
 have l9 := hz9.keep.size
 have lt9 := r8'.out.known.lt
 have hgz2 : gt ≠ gz2 := by omega
 have hC := intCmp_any w9 w.heap.size w8.heap.size gt 0 gz2 0 0 0 false false r8 vz2 t9 hz9.at_ (by simp [hgz2]) (by rw [digs_zero]; decide) (by rw [digs_zero]; decide)
 rw [show cmpZ false 0 false 0 = 0 by decide] at hC
 replace hC := Lib.hid hC
 have a9 := Lib.hid (q8'.out.kept hz9.keep (fun h => h) (fun _ _ h => h))
 have k9 := k8.out.trans hz9.keep (fun _ _ h => h.elim)
 have g9 := hg.kept k9 (fun k hk e => by omega)
 replace k9 := Lib.hid k9
 clear hz9 hZ t9 q8' k8 r8'
 go_wp2_with fail
 refine hC.out.mono ?_
 rintro e w10 ⟨rfl, q', rfl⟩
 clear hC
 have a10 := Lib.hid (a9.out.drewN q')
 have k10 := Lib.hid (k9.out.drewN q')
 have g10 : Thr (w9.drewN q') := hg.kept k10.out (fun k hk e => by omega)
 have hE := Lib.hid (exp10_any (w9.drewN q') 38 (by omega) hl38 g10 (Nat.le_trans hGL k10.out.size))
 clear a9 k9 g9
 generalize w9.drewN q' = w10 at *
 go_wp2_with fail
 refine hE.out.mono ?_
 rintro e w11 ⟨gx, vx, rfl, hx11⟩
 generalize hM38 : 10 ^ 38 = M at *
 have hM0 : M ≠ 0 := by omega
 have kI := (Keeps.refl (fun _ => False) w11).alloc (.cells #[.bool false, .slice none 0 0] 143)
 have k11 := k10.out.trans hx11.keep (fun _ _ h => h.elim)
 have x12 := hx11.at_.kept kI (fun h => h) (fun _ _ h => h)
 have lx := hx11.at_.known.lt
 have gx10 := hx11.ge
 have hNg := intNeg_any (w11.alloc (.cells #[.bool false, .slice none 0 0] 143)) w.heap.size w10.heap.size w11.heap.size 0 gx 0 0 M false false (.slice none 0 0) vx (newAt _ _) x12 (addrNe (by omega)) (Nat.le_trans k11.size kI.size) (by omega)
 have ht1 : (decide (M ≠ 0) && !false) = true := by simp [hM0]
 rw [ht1] at hNg
 replace hNg := Lib.hid hNg
 have a12 := Lib.hid ((a10.out.kept hx11.keep (fun h => h) (fun _ _ h => h)).kept kI (fun h => h) (fun _ _ h => h))
 have k12 := Lib.hid (k11.trans kI (fun _ _ h => h.elim))
 have o8' : ∀ k, q8.ownBlock = some k → k < w11.heap.size := fun k hk => Nat.lt_of_lt_of_le (NatRow.lt a10.out.nat k hk).2 hx11.keep.size
 have l11 : w.heap.size ≤ w11.heap.size := k11.size
 have l10 := k10.out.size
 have ox : ∀ k, vx.ownBlock = some k → k < w11.heap.size := fun k hk => (NatRow.lt hx11.at_.nat k hk).2
 replace x12 := Lib.hid x12
 clear hx11 hE kI k11 a10 k10 g10 ht1 hM38
 go_wp2_with fail
 refine hNg.out.mono ?_
 rintro e w13 ⟨vn, rfl, ho13⟩
 have kn : Keeps (fun k => k = w11.heap.size) (w11.alloc (.cells #[.bool false, .slice none 0 0] 143)) w13 := ho13.keep.mono (fun k _ h => h.resolve_right (by simp [Value.ownBlock]))
 have a13 := a12.out.kept kn (by omega) (fun k hk e => by have := o8' k hk; omega)
 have x13 := x12.out.kept kn (by omega) (fun k hk e => by have := ox k hk; omega)
 have k13 := k12.out.trans kn (fun k hk e => by omega)
 have hC1 := intCmp_any w13 w.heap.size w.heap.size gm 0 w11.heap.size 0 N M _ true q8 vn a13 ho13.at_ (addrNe (by omega)) (by omega) (by omega)
 have hC2 := fun q => Lib.hid (intCmp_any (w13.drewN q) w.heap.size w10.heap.size gm 0 gx 0 N M _ false q8 vx (a13.drewN q) (x13.drewN q) (addrNe (by omega)) (by omega) (by omega))
 generalize hsN : (decide (N ≠ 0) && s) = sN at *
 replace hsN := Lib.hid hsN
 have z1 : cmpZ sN N true M = 1 := by cases sN <;> simp [cmpZ, cmpI_lt hlt]
 have z2 : cmpZ sN N false M = -1 := by cases sN <;> simp [cmpZ, cmpI_lt hlt]
 rw [z1] at hC1
 rw [z2] at hC2
 replace hC1 := Lib.hid hC1
 replace a13 := Lib.hid a13
 replace k13 := Lib.hid k13
 clear x13 x12 kn ho13 hNg z1 z2
 go_wp2_with fail
 refine hC1.out.mono ?_
 rintro e w14 ⟨rfl, q1, rfl⟩
 go_wp2_with fail
 refine (hC2 q1).out.mono ?_
 rintro e w15 ⟨rfl, q2, rfl⟩
 have hfin := Lib.hid (And.intro (a13.out.drewN (q1 + q2)) (k13.out.drewN (q1 + q2)))
 clear hC1 hC2 a13 k13
 go_wp2_with fail
 go_ret
 refine ⟨q8, rfl, ?_⟩
 rw [hsN.out]
 exact hfin.out
end Go.Proofs.YthocmhkafgpgbaaGreatDoor
