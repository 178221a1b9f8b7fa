/- Parts of the walk. -/
import Derived.Test.YtgamldefngehlaaGreatDoorM11
import Derived.Test.YtgamldefngehlaaGreatDoorM16
import Derived.Test.YtgamldefngehlaaGreatDoorM18
import Derived.Test.YtgamldefngehlaaGreatDoorM20
set_option linter.unusedVariables false
set_option linter.unusedSimpArgs false
namespace Go.Proofs.YtgamldefngehlaaGreatDoor
open Go.RowKit
open Go.Proofs.YtgamldefngehlaaGreatDoorW.PrintLast
set_option maxRecDepth 100000 in
theorem ratNum_any (w : World) (g : Nat) : Calls Tryz.prog 103 #[.pointer (some ⟨g, 0, none⟩)] w fun e w' => e = .returned (.pointer (some ⟨g, 0, none⟩)) ∧ w' = w := by
 go_enter Tryz.func103, Tryz.ntmps103
 go_wp2_with fail
 go_ret
 exact ⟨rfl, rfl⟩
set_option maxRecDepth 100000 in
theorem ratDenom_any (w : World) (base g n d : Nat) (s s' : Bool) (v u : Value) (h : RatAt w base g s s' v u n d) (hd : d ≠ 0) : Calls Tryz.prog 104 #[.pointer (some ⟨g, 0, none⟩)] w fun e w' => e = .returned (.pointer (some ⟨g, 2, none⟩)) ∧ w' = w := by
 obtain ⟨pu, ku, rfl⟩ := NatRow.form h.den.nat
 have c3 := h.den.abs
 have t2 : (((digs WB d).length : Int) == 0) = false := by have := (digs_len_pos WB_one (n := d)).2 hd; exact beq_eq_false_iff_ne.2 (by omega)
 have t3 : ¬ ((digs WB d).length : Int) = 0 := by have := (digs_len_pos WB_one (n := d)).2 hd; omega
 clear h
 go_enter Tryz.func104, Tryz.ntmps104
 go_wp2_with fail
 go_ret
 exact ⟨rfl, rfl⟩
theorem ratNorm_all (w : World) (base g n d : Nat) (s : Bool) (v u : Value) (h : RatAt w base g s false v u n d) (hB : base ≤ w.heap.size) (hd : d ≠ 0) (hF : RatFits w base g n d) :
  Calls Tryz.prog 138 #[.pointer (some ⟨g, 0, none⟩)] w fun e w' => ∃ v' u', e = .returned (.pointer (some ⟨g, 0, none⟩)) ∧ RatOut w w' base g v u (decide (n ≠ 0) && s) false v' u' (n / Nat.gcd n d) (d / Nat.gcd n d) := by
 by_cases hn : n = 0
 ·subst hn
  refine (ratNorm_zero w base g d s false v u h hB).mono ?_
  rintro e w' ⟨u', rfl, ho⟩
  refine ⟨v, u', rfl, ?_⟩
  rw [Nat.gcd_zero_left, Nat.zero_div, Nat.div_self (by omega)]
  simpa using ho
 ·refine (ratNorm_any w base g n d s false v u h hB hn hd hF).mono ?_
  rintro e w' ⟨v', u', rfl, ho⟩
  exact ⟨v', u', rfl, by simpa [hn] using ho⟩
set_option maxRecDepth 100000 in
set_option maxHeartbeats 2000000 in
theorem setFrac_any (w : World) (base bx by_ g gx ox gy oy nx ny : Nat) (sx sy t : Bool) (xv yv : Value) (h : RatAt w base g t false (.slice none 0 0) (.slice none 0 0) 0 0) (hx : IntAt w bx gx ox sx xv nx) (hy : IntAt w by_ gy oy sy yv ny) (hgx : gx ≠ g) (hgy : gy ≠ g) (hB : base ≤ w.heap.size)
  (hd : ny ≠ 0) (hF : RatFits w base g nx ny) :
  Calls Tryz.prog 62 #[.pointer (some ⟨g, 0, none⟩), .pointer (some ⟨gx, ox, none⟩), .pointer (some ⟨gy, oy, none⟩)] w fun e w' => ∃ v' u', e = .returned (.pointer (some ⟨g, 0, none⟩)) ∧ RatOut w w' base g (.slice none 0 0) (.slice none 0 0) (decide (nx ≠ 0) && (sx != sy)) false v' u' (nx / Nat.gcd nx ny) (ny / Nat.gcd nx ny) := by
 have hlx := hF.ln
 have hly := hF.ld
 have c0 := h.num.neg
 have f0 := h.num.known.frozen 0
 have cx := hx.neg
 have cy := hy.neg
 go_enter Tryz.func62, Tryz.ntmps62
 go_wp2_with fail
 refine start_ (n := 14) (S := fun W => W.cell? ⟨gx, ox, none⟩ = some (.bool sx) ∧ W.cell? ⟨gy, oy, none⟩ = some (.bool sy)) (ds := [13]) z19 (by kernel_rfl) rfl rfl ⟨cx, cy⟩ (fun hHeld => ?_)
 refine stq 0 8 z20 ?_
 refine stq 1 9 z21 ?_
 refine stq 2 10 z22 ?_
 refine stq 3 11 z23 ?_
 refine take_ (i := 4) (N := some 12) (v := ?_) (a' := ?_) z24 rfl rfl (by kernel_rfl) (fun _ _ _ h => h) (Or.inl ⟨by rfl, ?_⟩) hHeld ?_ ?_
 rotate_left
 ·rintro w' ⟨s0, s1⟩; go_simp; try with_reducible rfl
 rotate_left
 ·simp only [Act.put, sA, sB, sC]; rfl
 refine stq 5 13 z25 ?_
 refine stq 6 14 z26 ?_
 refine stq 7 15 z27 ?_
 refine take_ (i := 8) (N := some 16) (v := ?_) (a' := ?_) z28 rfl rfl (by kernel_rfl) (fun _ _ _ h => h) (Or.inl ⟨by rfl, ?_⟩) hHeld ?_ ?_
 rotate_left
 ·rintro w' ⟨s0, s1⟩; go_simp; try with_reducible rfl
 rotate_left
 ·simp only [Act.put, sA, sB, sC]; rfl
 refine stq 9 17 z29 ?_
 refine stq 10 18 z30 ?_
 refine stq 11 19 z31 ?_
 refine stq 12 20 z32 ?_
 refine last_ (i := 13) (N := none) z33 rfl rfl (by kernel_rfl) (by decide) (fun K hK => ?_)
 refine skip_ (w1 := ?_) (by rfl) rfl ?_ ?_
 rotate_left
 ·go_simp; try rfl
 refine hK.out _ _ ?_
 clear hK K
 refine done_ (by kernel_rfl) ?_
 have h1 := (h.putNeg (!(sx == sy))).drewN 1
 change RatOut w (w.setCell ⟨g, 0, none⟩ (.bool (!(sx == sy)))).drew _ _ _ _ _ _ _ _ _ _ at h1
 have hxg := NatRow.apart hx.nat h.num.neg
 have hyg := NatRow.apart hy.nat h.num.neg
 have k1 : Keeps (fun k => k = g) w (w.setCell ⟨g, 0, none⟩ (.bool (!(sx == sy)))).drew := ((Keeps.refl _ _).one 0 _).drew
 have hx1 := hx.kept k1 hgx (fun k hk e => hxg (by rw [hk, e]))
 have hy1 := hy.kept k1 hgy (fun k hk e => hyg (by rw [hk, e]))
 have hkn : Known (w.setCell ⟨g, 0, none⟩ (.bool (!(sx == sy)))).drew g := h1.at_.num.known
 have hB1 : base ≤ (w.setCell ⟨g, 0, none⟩ (.bool (!(sx == sy)))).drew.heap.size := Nat.le_trans hB k1.size
 generalize (w.setCell ⟨g, 0, none⟩ (.bool (!(sx == sy)))).drew = w1 at *
 have hcy := hy1.abs
 have hcx := hx1.abs
 have ha0 := h1.at_.num.abs
 have hb0 := h1.at_.den.abs
 rw [Nat.zero_add] at ha0
 obtain ⟨py, ky, rfl⟩ := NatRow.form hy.nat
 have t1 : (((digs WB ny).length : Int) == 0) = false := by have := (digs_len_pos WB_one (n := ny)).2 hd; exact beq_eq_false_iff_ne.2 (by omega)
 have hE := intEq w1 ⟨g, 0, none⟩ ⟨gy, oy, none⟩ hkn hy1.known
 rw [decide_eq_false (show ¬ (⟨g, 0, none⟩ : Addr) = ⟨gy, oy, none⟩ by simp [hgy.symm])] at hE
 have hA := alias_any w1 base by_ (.slice none 0 0) _ [] _ (.nil _ _) hy1.nat
 rw [sameBlk_nil] at hA
 have hA := Lib.hid hA
 clear c0 f0 cx cy
 go_wp2_with fail
 refine hA.out.mono ?_
 rintro e w0 ⟨rfl, q, rfl⟩
 have h2 : RatOut w (w1.drewN q) base g (.slice none 0 0) (.slice none 0 0) (!(sx == sy)) false (.slice none 0 0) (.slice none 0 0) 0 0 := h1.drewN q
 have hx2 := hx1.drewN q
 have hy2 := hy1.drewN q
 have hB2 : base ≤ (w1.drewN q).heap.size := hB1
 have k2 : Keeps (fun k => k = g) w (w1.drewN q) := k1.drewN q
 generalize w1.drewN q = w2 at *
 clear hcy hcx ha0 hb0 h1 hx1 hy1 hB1 k1 hE hA hkn t1
 have hcx := hx2.abs
 have ha0 := h2.at_.num.abs
 rw [Nat.zero_add] at ha0
 go_wp2_with fail
 refine start_ (n := 15) (S := fun W => W.cell? ⟨g, 1, none⟩ = some (.slice none 0 0) ∧ W.cell? ⟨gx, ox + 1, none⟩ = some xv) (ds := [10, 14]) z34 (by kernel_rfl) rfl rfl ⟨ha0, hcx⟩ (fun hHeld => ?_)
 refine stq 0 45 z35 ?_
 refine stq 1 46 z36 ?_
 refine stq 2 47 z37 ?_
 refine stq 3 48 z38 ?_
 refine stq 4 49 z39 ?_
 refine take_ (i := 5) (N := some 50) (v := ?_) (a' := ?_) z40 rfl rfl (by kernel_rfl) (fun _ _ _ h => h) (Or.inl ⟨by rfl, ?_⟩) hHeld ?_ ?_
 rotate_left
 ·rintro w' ⟨s0, s1⟩; go_simp; try with_reducible rfl
 rotate_left
 ·simp only [Act.put, sA, sB, sC]; rfl
 refine stq 6 51 z41 ?_
 refine stq 7 52 z42 ?_
 refine stq 8 53 z43 ?_
 refine take_ (i := 9) (N := some 54) (v := ?_) (a' := ?_) z44 rfl rfl (by kernel_rfl) (fun _ _ _ h => h) (Or.inl ⟨by rfl, ?_⟩) hHeld ?_ ?_
 rotate_left
 ·rintro w' ⟨s0, s1⟩; go_simp; try with_reducible rfl
 rotate_left
 ·simp only [Act.put, sA, sB, sC]; rfl
 refine last_ (i := 10) (N := some 55) z45 rfl rfl (by kernel_rfl) (by decide) (fun K hK => ?_)
 refine goes_ Tryz.func137 (by kernel_rfl) rfl #[.slice none 0 0, xv] (by rfl) rfl rfl (by first | rfl | simp [Act.eval]) ?_
 refine (set_any w2.drew base _ (.slice none 0 0) xv [] _ (.nil _ _) hx2.nat hB2 (by omega)).mono ?_
 rintro e w3 ⟨v3, rfl, ho3⟩
 have ho3 := ho3.undrew
 obtain ⟨p3, k3, rfl⟩ := NatRow.form ho3.row
 have ho3 : NatOut w2 w3 base (.slice none 0 0) (.slice p3 (digs WB nx).length k3) (digs WB nx) := ho3
 obtain ⟨m1, m2⟩ := midRat h2.at_ ho3 (.inl rfl) 1 _ ha0
 refine ⟨_, rfl, ?_⟩
 refine hK.out _ _ ?_
 clear hK K
 try clear hHeld
 refine norm_ (a' := ?_) ?_ ?_
 rotate_left
 ·simp only [Act.put, sA, sB, sC]; rfl
 refine stq 11 56 z46 ?_
 refine stq 12 57 z47 ?_
 refine stq 13 58 z48 ?_
 refine last_ (i := 14) (N := none) z49 rfl rfl (by kernel_rfl) (by decide) (fun K hK => ?_)
 refine skip_ (w1 := ?_) (by rfl) rfl ?_ ?_
 rotate_left
 ·go_simp; try rfl
 refine hK.out _ _ ?_
 clear hK K
 refine done_ (by kernel_rfl) ?_
 have hq := h2.at_.putNum (n' := nx) ho3
 have h4 := h2.trans hq
 have hyg2 : ∀ k, (Value.slice py (digs WB ny).length ky).ownBlock = some k → ¬ (k = g ∨ (Value.slice none 0 0).ownBlock = some k ∨ (Value.slice none 0 0).ownBlock = some k) := fun k hk e => by
  rcases e with e | e | e
  ·exact hyg (by rw [hk, e])
  ·simp [Value.ownBlock] at e
  ·simp [Value.ownBlock] at e
 have hy4 := NatRow.kept hy2.nat hq.keep hyg2
 have s4 := hq.keep.size
 generalize w3.setCell ⟨g, 1, none⟩ (.slice p3 (digs WB nx).length k3) = w4 at *
 have hB4 : base ≤ w4.heap.size := Nat.le_trans hB2 s4
 have hb4 := h4.at_.den.abs
 have hS := Lib.hid (set_any w4 base _ (.slice none 0 0) _ [] _ (.nil _ _) hy4 hB4 (by omega))
 clear m1 m2 hq ha0 hcx
 go_wp2_with fail
 refine hS.out.mono ?_
 rintro e w5 ⟨u5, rfl, ho5⟩
 obtain ⟨p5, k5, rfl⟩ := NatRow.form ho5.row
 have ho5' : NatOut w4 w5 base (.slice none 0 0) (.slice p5 (digs WB ny).length k5) (digs WB ny) := ho5
 obtain ⟨m1, m2⟩ := midRat h4.at_ ho5' (.inr rfl) 3 _ hb4
 have hq5 := h4.at_.putDen (d' := ny) ho5'
 have h6 := h4.trans hq5
 have s6 := hq5.keep.size
 clear hq5 ho5 ho5'
 have hB6 : base ≤ (w5.setCell ⟨g, 3, none⟩ (.slice p5 (digs WB ny).length k5)).heap.size := Nat.le_trans hB4 s6
 have hN := Lib.hid (ratNorm_all _ base g nx ny _ _ _ h6.at_ hB6 hd ⟨hF.few, hF.ln, hF.ld, h.thr hF.thr hF.gb hF.gg h6.keep, hF.gb, hF.gg⟩)
 have hfin := Lib.hid h6
 clear h6 s6
 go_wp2_with fail
 refine hN.out.mono ?_
 rintro e w7 ⟨v', u', rfl, ho7⟩
 have hfin := Lib.hid (hfin.out.trans ho7)
 go_wp2_with fail
 go_ret
 exact ⟨v', u', rfl, hfin.out⟩
end Go.Proofs.YtgamldefngehlaaGreatDoor
namespace Go.Proofs.YtgamldefngehlaaGreatDoor
open Go.RowKit
structure RatNew (w w' : World) (g : Nat) (s : Bool) (v u : Value) (n d : Nat) : Prop where
 at_ : RatAt w' w.heap.size g s false v u n d
 keep : Keeps (fun _ => False) w w'
 ge : w.heap.size ≤ g
theorem newRatAt (w : World) (base : Nat) : RatAt (w.alloc (.cells #[.bool false, .slice none 0 0, .bool false, .slice none 0 0] 141)) base w.heap.size false false (.slice none 0 0) (.slice none 0 0) 0 0 := by
 have hb := blk_new w (.cells #[.bool false, .slice none 0 0, .bool false, .slice none 0 0] 141 (0, 0))
 have hn : ∀ w', NatAt w' base (.slice none 0 0) 0 := fun w' => by unfold NatAt; rw [digs_zero]; exact .nil _ _
 exact ⟨⟨⟨_, _, hb⟩, by rw [cellOf hb]; rfl, by rw [cellOf hb]; rfl, hn _⟩, ⟨⟨_, _, hb⟩, by rw [cellOf hb]; rfl, by rw [cellOf hb]; rfl, hn _⟩, fun k h => by simp [Value.ownBlock] at h⟩
theorem RatOut.new {w w1 w2 : World} {g n d : Nat} {s : Bool} {v u : Value} (h : RatOut w1 w2 w.heap.size g (.slice none 0 0) (.slice none 0 0) s false v u n d) (hk : Keeps (fun _ => False) w w1) (hg : w.heap.size ≤ g) : RatNew w w2 g s v u n d :=
 ⟨h.at_, hk.trans h.keep (fun k hk e => by rcases e with e | e | e; omega; simp [Value.ownBlock] at e; simp [Value.ownBlock] at e), hg⟩
end Go.Proofs.YtgamldefngehlaaGreatDoor
namespace Go.Proofs.YtgamldefngehlaaGreatDoor
open Go.RowKit
open Go.Proofs.YtgamldefngehlaaGreatDoorW.PrintLast
structure IntRow (w : World) (base g o : Nat) (s : Bool) (v : Value) (xs : List Nat) : Prop where
 known : Known w g
 neg : w.cell? ⟨g, o, none⟩ = some (.bool s)
 abs : w.cell? ⟨g, o + 1, none⟩ = some v
 nat : NatRow w base v xs
theorem IntAt.row {w : World} {base g o n : Nat} {s : Bool} {v : Value} (h : IntAt w base g o s v n) : IntRow w base g o s v (digs WB n) := ⟨h.known, h.neg, h.abs, h.nat⟩
theorem IntRow.kept {w w' : World} {T : Nat → Prop} {base g o : Nat} {s : Bool} {v : Value} {xs : List Nat} (h : IntRow w base g o s v xs) (hk : Keeps T w w') (hg : ¬ T g) (hv : ∀ k, v.ownBlock = some k → ¬ T k) : IntRow w' base g o s v xs :=
 ⟨h.known.keeps hk hg, hk.cellS h.neg hg, hk.cellS h.abs hg, h.nat.kept hk hv⟩
set_option maxRecDepth 100000 in
theorem intBits_any (w : World) (base g o : Nat) (s : Bool) (v : Value) (xs : List Nat) (h : IntRow w base g o s v xs) : Calls Tryz.prog 231 #[.pointer (some ⟨g, o, none⟩)] w fun e w' => e = .returned v ∧ w' = w := by
 obtain ⟨p, c, rfl⟩ := NatRow.form h.nat
 have c1 := h.abs
 clear h
 go_enter Tryz.func231, Tryz.ntmps231
 go_wp2_with fail
 go_ret
 exact ⟨rfl, rfl⟩
set_option maxRecDepth 100000 in
theorem intSetBits_any (w : World) (base g o n0 b : Nat) (s : Bool) (zv : Value) (C : List Nat) (hz : IntAt w base g o s zv n0) (hC : Blk w b C) (hb : base ≤ b) (hw : Words WB C) (h0 : 0 < C.length) (hl : C.length ≤ 1000000) :
  Calls Tryz.prog 242 #[.pointer (some ⟨g, o, none⟩), .slice (some ⟨b, 0, none⟩) C.length C.length] w fun e w' => ∃ v', e = .returned (.pointer (some ⟨g, o, none⟩)) ∧ IntAt w' base g o false v' (val WB C) ∧ Keeps (fun k => k = g) w w' := by
 have hN := norm_row w base b C.length C hb hC hw (Nat.le_refl _) h0 hl
 rw [List.take_length] at hN
 replace hN := Lib.hid hN
 have c0 := hz.neg
 have c1 := hz.abs
 have f1 := hz.known.frozen (o + 1)
 have f0 := fun v => (hz.known.setCell g (o + 1) v).frozen o
 have hfin := Lib.hid (fun (m : Nat) (hn : NatAt w base (.slice (some ⟨b, 0, none⟩) m C.length) (val WB C)) => show IntAt ((w.setCell ⟨g, o + 1, none⟩ (.slice (some ⟨b, 0, none⟩) m C.length)).setCell ⟨g, o, none⟩ (.bool false)) base g o false (.slice (some ⟨b, 0, none⟩) m C.length) (val WB C) ∧ Keeps (fun k => k = g) w ((w.setCell ⟨g, o + 1, none⟩ (.slice (some ⟨b, 0, none⟩) m C.length)).setCell ⟨g, o, none⟩ (.bool false)) from by
  have k2 : Keeps (fun k => k = g) w ((w.setCell ⟨g, o + 1, none⟩ (.slice (some ⟨b, 0, none⟩) m C.length)).setCell ⟨g, o, none⟩ (.bool false)) := ((Keeps.refl (fun k => k = g) w).setCell _ _ (fun _ => rfl)).setCell _ _ (fun _ => rfl)
  have e0 : (w.setCell ⟨g, o + 1, none⟩ (.slice (some ⟨b, 0, none⟩) m C.length)).cell? ⟨g, o, none⟩ = some (.bool s) := (cell_set_ne (by simp) _).trans hz.neg
  refine ⟨⟨(hz.known.setCell _ _ _).setCell _ _ _, cell_set_same e0 _, ?_, NatRow.kept hn k2 (fun k hk e => ?_)⟩, k2⟩
  ·rw [cell_set_ne (by simp)]; exact cell_set_same hz.abs _
  ·have := NatRow.apart hn hz.neg
   exact this (by rw [hk, e]))
 have e0 : ∀ v, (w.setCell ⟨g, o + 1, none⟩ v).cell? ⟨g, o, none⟩ = some (.bool s) := fun v => (cell_set_ne (by simp) _).trans hz.neg
 clear hz hC hw hl h0
 go_enter Tryz.func242, Tryz.ntmps242
 go_wp2_with fail
 refine hN.out.mono ?_
 rintro e w1 ⟨m, rfl, hw1, -, hn⟩
 obtain rfl := hw1.symm
 have hf := Lib.hid (hfin.out m hn)
 have f0' := f0 (.slice (some ⟨b, 0, none⟩) m C.length)
 have e0' := e0 (.slice (some ⟨b, 0, none⟩) m C.length)
 clear hn hfin f0 e0
 go_wp2_with fail
 go_ret
 exact ⟨_, rfl, hf.out⟩
end Go.Proofs.YtgamldefngehlaaGreatDoor
namespace Go.Proofs.YtgamldefngehlaaGreatDoor
open Go.RowKit
theorem IntAt.other {w w' : World} {base g o g' o' n n' : Nat} {s s' : Bool} {v zv v' : Value} (h : IntAt w base g' o' s v n) (hz : IntAt w base g o s' zv n') {t : Bool} {m : Nat} (ho : IntOut w w' base g o zv t v' m) (hf : Far g o g' o') (hap : ∀ k, v.ownBlock = some k → zv.ownBlock ≠ some k) : IntAt w' base g' o' s v n := by
 have hz1 : zv.ownBlock ≠ some g' := NatRow.apart hz.nat h.neg
 have hv1 : v.ownBlock ≠ some g := NatRow.apart h.nat hz.neg
 by_cases e : g' = g
 ·subst e
  have hf : o + 2 ≤ o' ∨ o' + 2 ≤ o := hf.resolve_left (fun h => h rfl)
  exact ⟨ho.at_.known, (ho.rest o' (by omega) (by omega)).trans h.neg, (ho.rest (o' + 1) (by omega) (by omega)).trans h.abs, NatRow.kept h.nat ho.keep (fun k hk x => x.elim (fun x => hv1 (by rw [hk, x])) (hap k hk))⟩
 ·exact h.kept ho.keep (fun x => x.elim e hz1) (fun k hk x => x.elim (fun x => hv1 (by rw [hk, x])) (hap k hk))
theorem IntOut.apart {w w' : World} {base g o n : Nat} {s t : Bool} {v zv v' : Value} {xs : List Nat} {m : Nat} (ho : IntOut w w' base g o zv t v' m) (hr : NatRow w base v xs) (hap : ∀ k, v.ownBlock = some k → zv.ownBlock ≠ some k) : ∀ k, v.ownBlock = some k → v'.ownBlock ≠ some k := fun k hk e => by
 rcases ho.own k e with h1 | h1
 ·exact hap k hk h1
 ·have := (NatRow.lt hr k hk).2; omega
structure Cv (w0 w : World) (gc gm : Nat) (s t r : Bool) (v u mv : Value) (n d m : Nat) : Prop where
 a : IntAt w w0.heap.size gc 0 s v n
 b : IntAt w w0.heap.size gc 2 t u d
 m : IntAt w w0.heap.size gm 0 r mv m
 ne : gm ≠ gc
 ge : w0.heap.size ≤ gc
 ab : ∀ k, v.ownBlock = some k → u.ownBlock ≠ some k
 am : ∀ k, v.ownBlock = some k → mv.ownBlock ≠ some k
 bm : ∀ k, u.ownBlock = some k → mv.ownBlock ≠ some k
 keep : Keeps (fun k => k = gm) w0 w
section
variable {w0 w w' : World} {gc gm n d m n' : Nat} {s t r s' : Bool} {v u mv v' : Value}
theorem Cv.fresh (h : Cv w0 w gc gm s t r v u mv n d m) (hk : Keeps (fun _ => False) w w') : Cv w0 w' gc gm s t r v u mv n d m :=
 ⟨h.a.kept hk (fun h => h) (fun _ _ h => h), h.b.kept hk (fun h => h) (fun _ _ h => h), h.m.kept hk (fun h => h) (fun _ _ h => h), h.ne, h.ge, h.ab, h.am, h.bm, h.keep.trans hk (fun _ _ h => h.elim)⟩
theorem Cv.putA (h : Cv w0 w gc gm s t r v u mv n d m) (ho : IntOut w w' w0.heap.size gc 0 v s' v' n') : Cv w0 w' gc gm s' t r v' u mv n' d m :=
 ⟨ho.at_, h.b.other h.a ho (.inr (.inl (Nat.le_refl _))) (fun k h1 h2 => h.ab k h2 h1), h.m.other h.a ho (.inl h.ne.symm) (fun k h1 h2 => h.am k h2 h1), h.ne, h.ge,
  fun k h1 h2 => ho.apart (n := 0) (s := false) h.b.nat (fun k h1 h2 => h.ab k h2 h1) k h2 h1, fun k h1 h2 => ho.apart (n := 0) (s := false) h.m.nat (fun k h1 h2 => h.am k h2 h1) k h2 h1, h.bm,
  h.keep.trans ho.keep (fun k hk e => e.elim (fun e => by have := h.ge; omega) (fun e => by have := (NatRow.lt h.a.nat k e).1; omega))⟩
theorem Cv.putB (h : Cv w0 w gc gm s t r v u mv n d m) (ho : IntOut w w' w0.heap.size gc 2 u s' v' n') : Cv w0 w' gc gm s s' r v v' mv n n' m :=
 ⟨h.a.other h.b ho (.inr (.inr (Nat.le_refl _))) h.ab, ho.at_, h.m.other h.b ho (.inl h.ne.symm) (fun k h1 h2 => h.bm k h2 h1), h.ne, h.ge,
  ho.apart (n := 0) (s := false) h.a.nat h.ab, h.am, fun k h1 h2 => ho.apart (n := 0) (s := false) h.m.nat (fun k h1 h2 => h.bm k h2 h1) k h2 h1,
  h.keep.trans ho.keep (fun k hk e => e.elim (fun e => by have := h.ge; omega) (fun e => by have := (NatRow.lt h.b.nat k e).1; omega))⟩
theorem Cv.putM (h : Cv w0 w gc gm s t r v u mv n d m) (ho : IntOut w w' w0.heap.size gm 0 mv s' v' n') : Cv w0 w' gc gm s t s' v u v' n d n' :=
 ⟨h.a.other h.m ho (.inl h.ne) h.am, h.b.other h.m ho (.inl h.ne) h.bm, ho.at_, h.ne, h.ge, h.ab, ho.apart (n := 0) (s := false) h.a.nat h.am, ho.apart (n := 0) (s := false) h.b.nat h.bm,
  h.keep.trans ho.keep (fun k hk e => e.elim id (fun e => by have := (NatRow.lt h.m.nat k e).1; omega))⟩
theorem Cv.qrM {q z : Value} {s1 s2 : Bool} {x y : Nat} (h : Cv w0 w gc gm s t r v u mv n d m) (ho : QROut w w' w0.heap.size gm 0 gc 0 mv v q z s1 s2 x y) : Cv w0 w' gc gm s2 t s1 z u q (x % y) d (x / y) := by
 have a1 : mv.ownBlock ≠ some gc := NatRow.apart h.m.nat h.a.neg
 have a2 : v.ownBlock ≠ some gc := NatRow.apart h.a.nat h.a.neg
 have a3 : u.ownBlock ≠ some gc := NatRow.apart h.b.nat h.a.neg
 have a4 : u.ownBlock ≠ some gm := NatRow.apart h.b.nat h.m.neg
 have hu : ∀ k, u.ownBlock = some k → ¬ (k = gm ∨ k = gc ∨ mv.ownBlock = some k ∨ v.ownBlock = some k) := fun k hk e => by
  rcases e with e | e | e | e
  ·exact a4 (by rw [hk, e])
  ·exact a3 (by rw [hk, e])
  ·exact h.bm k hk e
  ·exact h.ab k e hk
 have ul := fun k hk => (NatRow.lt h.b.nat k hk).2
 refine ⟨ho.rem, ⟨ho.rem.known, (ho.rest 2 (fun e => absurd e h.ne) (by omega) (by omega)).trans h.b.neg, (ho.rest 3 (fun e => absurd e h.ne) (by omega) (by omega)).trans h.b.abs, NatRow.kept h.b.nat ho.keep hu⟩, ho.quo, h.ne, h.ge, fun k h1 h2 => ?_, fun k h1 h2 => ho.apart k h2 h1, fun k h1 h2 => ?_, h.keep.trans ho.keep (fun k hk e => ?_)⟩
 ·rcases ho.ownr k h1 with e | e
  ·exact h.ab k e h2
  ·have := ul k h2; omega
 ·rcases ho.ownq k h2 with e | e
  ·exact h.bm k h1 e
  ·have := ul k h1; omega
 ·rcases e with e | e | e | e
  ·exact e
  ·have := h.ge; omega
  ·have := (NatRow.lt h.m.nat k e).1; omega
  ·have := (NatRow.lt h.a.nat k e).1; omega
theorem Cv.qrA {q z : Value} {s1 s2 : Bool} {x y : Nat} (h : Cv w0 w gc gm s t r v u mv n d m) (ho : QROut w w' w0.heap.size gc 0 gc 2 v u q z s1 s2 x y) : Cv w0 w' gc gm s1 s2 r q z mv (x / y) (x % y) m := by
 have a1 : v.ownBlock ≠ some gm := NatRow.apart h.a.nat h.m.neg
 have a2 : u.ownBlock ≠ some gm := NatRow.apart h.b.nat h.m.neg
 have a3 : mv.ownBlock ≠ some gc := NatRow.apart h.m.nat h.a.neg
 have ml := fun k hk => (NatRow.lt h.m.nat k hk).2
 refine ⟨ho.quo, ho.rem, h.m.kept ho.keep (fun e => ?_) (fun k hk e => ?_), h.ne, h.ge, ho.apart, fun k h1 h2 => ?_, fun k h1 h2 => ?_, h.keep.trans ho.keep (fun k hk e => ?_)⟩
 ·rcases e with e | e | e | e
  ·exact h.ne e
  ·exact h.ne e
  ·exact a1 e
  ·exact a2 e
 ·rcases e with e | e | e | e
  ·exact a3 (by rw [hk, e])
  ·exact a3 (by rw [hk, e])
  ·exact h.am k e hk
  ·exact h.bm k e hk
 ·rcases ho.ownq k h1 with e | e
  ·exact h.am k e h2
  ·have := ml k h2; omega
 ·rcases ho.ownr k h1 with e | e
  ·exact h.bm k e h2
  ·have := ml k h2; omega
 ·rcases e with e | e | e | e
  ·have := h.ge; omega
  ·have := h.ge; omega
  ·have := (NatRow.lt h.a.nat k e).1; omega
  ·have := (NatRow.lt h.b.nat k e).1; omega
end
end Go.Proofs.YtgamldefngehlaaGreatDoor
namespace Go.Proofs.YtgamldefngehlaaGreatDoor
open Go.RowKit
open Go.Proofs.YtgamldefngehlaaGreatDoorW.PrintLast
theorem IntOut.undrewI {w w' : World} {base g o n : Nat} {zv v : Value} {s : Bool} (h : IntOut w.drew w' base g o zv s v n) : IntOut w w' base g o zv s v n := ⟨h.at_, ⟨h.keep.os, h.keep.tape, h.keep.output, h.keep.size, h.keep.blk⟩, h.own, h.rest⟩
set_option maxRecDepth 100000 in
set_option maxHeartbeats 1000000 in
theorem ratSet_any (w : World) (base br gz gr n d : Nat) (s : Bool) (v0 u0 : Value) (hz : IntAt w base gz 0 false (.slice none 0 0) 0) (hz2 : IntAt w base gz 2 false (.slice none 0 0) 0) (hx : RatAt w br gr s false v0 u0 n d) (hne : gz ≠ gr) (hd : d ≠ 0) (hB : base ≤ w.heap.size) (hln : (digs WB n).length ≤ 900) (hld : (digs WB d).length ≤ 900) :
  Calls Tryz.prog 221 #[.pointer (some ⟨gz, 0, none⟩), .pointer (some ⟨gr, 0, none⟩)] w fun e w' => ∃ v u, e = .returned (.pointer (some ⟨gz, 0, none⟩)) ∧ IntAt w' base gz 0 s v n ∧ IntAt w' base gz 2 false u d ∧ (∀ k, v.ownBlock = some k → u.ownBlock ≠ some k) ∧ Keeps (fun k => k = gz) w w' := by
 have hE := ratNe w ⟨gz, 0, none⟩ ⟨gr, 0, none⟩ hz.known hx.num.known
 rw [decide_eq_false (show ¬ (⟨gz, 0, none⟩ : Addr) = ⟨gr, 0, none⟩ by simp [hne])] at hE
 have hA := Lib.hid (intSet_any w.drew base br gz 0 gr 0 0 n false s _ _ hz.drew hx.num.drew (by simp [hne]) hB (by omega))
 have hgx := NatRow.apart hx.num.nat hz.neg
 have hgy := NatRow.apart hx.den.nat hz.neg
 have hB' := Lib.hid (fun (w1 : World) (v' : Value) (ho : IntOut w w1 base gz 0 (.slice none 0 0) s v' n) => (show (∃ u1 : Value, True) ∧ Calls Tryz.prog 201 #[.pointer (some ⟨gz, 2, none⟩), .pointer (some ⟨gr, 2, none⟩)] w1.drew fun e w' => ∃ v', e = .returned (.pointer (some ⟨gz, 2, none⟩)) ∧ IntOut w1.drew w' base gz 2 (.slice none 0 0) false v' d from
  ⟨⟨.slice none 0 0, trivial⟩, intSet_any w1.drew base br gz 2 gr 2 0 d false false _ _ (IntAt.drew (hz2.other hz ho (.inr (.inl (Nat.le_refl _))) (fun k hk => by simp [Value.ownBlock] at hk))) (IntAt.drew (hx.den.kept ho.keep (fun e => e.elim (fun e => hne e.symm) (fun e => by simp [Value.ownBlock] at e)) (fun k hk e => e.elim (fun e => hgy (by rw [hk, e])) (fun e => by simp [Value.ownBlock] at e)))) (by simp [hne]) (Nat.le_trans hB ho.keep.size) (by omega)⟩))
 have hd0 := (digs_len_pos WB_one (n := d)).2 hd
 have hzz := Lib.hid (And.intro hz hz2)
 clear hx hz hz2
 go_enter Tryz.func221, Tryz.ntmps221
 go_wp2_with fail
 go_still_tail 6, (by kernel_rfl)
 change wpList _ _ _ _ _ w.drew
 go_wp2_with fail
 refine hA.out.mono ?_
 rintro e w1 ⟨v1, rfl, ho1⟩
 replace ho1 := ho1.undrewI
 have hB1 := Lib.hid (hB'.out w1 v1 ho1).2
 have ho1 := Lib.hid ho1
 go_wp2_with fail
 go_still_tail 6, (by kernel_rfl)
 change wpList _ _ _ _ _ w1.drew
 go_wp2_with fail
 refine hB1.out.mono ?_
 rintro e w2 ⟨u1, rfl, ho2⟩
 replace ho2 := ho2.undrewI
 obtain ⟨pu, ku, rfl⟩ := NatRow.form ho2.at_.nat
 have c3 := ho2.at_.abs
 have t0 : (((digs WB d).length : Int) == 0) = false := beq_eq_false_iff_ne.2 (by omega)
 have t1 : ¬ ((digs WB d).length : Int) = 0 := by omega
 have ho2 := Lib.hid ho2
 go_wp2_with fail
 go_ret
 obtain ⟨hz, hz2⟩ := hzz.out
 have ho1 := ho1.out
 have ho2 := ho2.out
 have h2 := hz2.other hz ho1 (.inr (.inl (Nat.le_refl _))) (fun k hk => by simp [Value.ownBlock] at hk)
 refine ⟨v1, _, rfl, ho1.at_.other h2 ho2 (.inr (.inr (Nat.le_refl _))) (fun k hk e => by simp [Value.ownBlock] at e), ho2.at_, ho2.apart (n := 0) (s := false) ho1.at_.nat (fun k hk e => by simp [Value.ownBlock] at e), (ho1.keep.trans ho2.keep (fun k _ e => e.elim .inl (fun e => by simp [Value.ownBlock] at e))).mono (fun k _ e => e.elim id (fun e => by simp [Value.ownBlock] at e))⟩
set_option maxRecDepth 100000 in
set_option maxHeartbeats 1000000 in
theorem isInt_any (w : World) (base g d : Nat) (t : Bool) (u : Value) (h : IntAt w base g 2 t u d) (hd : d ≠ 0) (hld : (digs WB d).length ≤ 900) :
  Calls Tryz.prog 222 #[.pointer (some ⟨g, 0, none⟩)] w fun e w' => e = .returned (.bool (decide (d = 1))) ∧ Keeps (fun _ => False) w w' := by
 have hO := natOne_any
 have c3 := h.abs
 obtain ⟨pu, ku, rfl⟩ := NatRow.form h.nat
 have hd0 := (digs_len_pos WB_one (n := d)).2 hd
 have t0 : (((digs WB d).length : Int) == 0) = false := beq_eq_false_iff_ne.2 (by omega)
 have t1 : ¬ ((digs WB d).length : Int) = 0 := by omega
 have hh := Lib.hid h
 clear h
 go_enter Tryz.func222, Tryz.ntmps222
 go_wp2_with fail
 have c3' : w.cell? ⟨g, 3, none⟩ = some (.slice pu (digs WB d).length ku) := c3
 refine start_ (n := 18) (S := fun W => W.cell? ⟨g, 3, none⟩ = some (.slice pu (digs WB d).length ku)) (ds := [14]) z0 (by kernel_rfl) rfl rfl c3' (fun hHeld => ?_)
 refine stq 0 3 z1 ?_
 refine stq 1 4 z2 ?_
 refine stq 2 5 z3 ?_
 refine stq 3 6 z4 ?_
 refine take_ (i := 4) (N := some 7) (v := ?_) (a' := ?_) z5 rfl rfl (by kernel_rfl) (fun _ _ _ h => h) (Or.inl ⟨by rfl, ?_⟩) hHeld ?_ ?_
 rotate_left
 ·rintro w' s0; go_simp; try with_reducible rfl
 rotate_left
 ·simp only [Act.put, sA, sB, sC]; rfl
 refine stq 5 8 z6 ?_
 refine stq 6 9 z7 ?_
 refine stq 7 10 z8 ?_
 refine stq 8 11 z9 ?_
 refine stq 9 12 z10 ?_
 refine stq 10 13 z11 ?_
 refine stq 11 14 z12 ?_
 refine take_ (i := 12) (N := some 15) (v := ?_) (a' := ?_) z13 rfl rfl (by kernel_rfl) (fun _ _ _ h => h) (Or.inl ⟨by rfl, ?_⟩) hHeld ?_ ?_
 rotate_left
 ·rintro w' s0; go_simp; try with_reducible rfl
 rotate_left
 ·simp only [Act.put, sA, sB, sC]; rfl
 refine one_ (i := 13) (N := some 16) z14 rfl rfl (by kernel_rfl) (by decide) (fun K hK => ?_)
 refine goes_ Tryz.func260 (by kernel_rfl) rfl #[] (by rfl) rfl rfl (by first | rfl | simp [Act.eval]) ?_
 refine (hO w.drew).mono ?_
 rintro e w1 ⟨ov, rfl, hov, hk1⟩
 have hkw : Keeps (fun _ => False) w w1 := (Keeps.refl _ w).drew.trans hk1 (fun _ _ h => h)
 have hC := cmp_any w1 _ _ _ ov d 1 (NatRow.kept hh.out.nat hkw (fun _ _ h => h)) hov (by omega) (by rw [digs_small WB_one (by omega) WB_one]; simp)
 have hC := Lib.hid hC
 have hkw := Lib.hid hkw
 clear hk1 hov
 refine ⟨_, rfl, ?_⟩
 refine hK.out _ _ (hkw.out.cellS c3' (fun h => h)) (fun hHeld => ?_)
 clear hK K
 refine norm_ (a' := ?_) ?_ ?_
 rotate_left
 ·simp only [Act.put, sA, sB, sC]; rfl
 refine last_ (i := 14) (N := some 17) z15 rfl rfl (by kernel_rfl) (by decide) (fun K hK => ?_)
 refine goes_ Tryz.func253 (by kernel_rfl) rfl #[.slice pu (digs WB d).length ku, ov] (by rfl) rfl rfl (by first | rfl | simp [Act.eval]) ?_
 refine hC.out.mono ?_
 rintro e w2 ⟨rfl, q2, hq2⟩
 have hfin : Keeps (fun _ => False) w w2 := by rw [hq2]; exact hkw.out.drewN q2
 have hfin := Lib.hid hfin
 clear hq2
 refine ⟨_, rfl, ?_⟩
 refine hK.out _ _ ?_
 clear hK K
 try clear hHeld
 refine norm_ (a' := ?_) ?_ ?_
 rotate_left
 ·simp only [Act.put, sA, sB, sC]; rfl
 refine stq 15 18 z16 ?_
 refine stq 16 19 z17 ?_
 refine stq 17 2 z18 ?_
 refine done_ (by kernel_rfl) ?_
 go_wp2_with fail
 go_ret
 refine ⟨?_, hfin.out⟩
 by_cases h1 : d = 1
 ·rw [decide_eq_true h1, cmpI_eq h1]; rfl
 ·rw [decide_eq_false h1]
  have : cmpI d 1 = 1 := cmpI_gt (by omega)
  rw [this]; rfl
end Go.Proofs.YtgamldefngehlaaGreatDoor
namespace Go.Proofs.YtgamldefngehlaaGreatDoor
open Go.RowKit
set_option maxRecDepth 100000 in
theorem setBytes_none (w : World) (p : Option Addr) (c : Nat) : Calls Tryz.prog 200 #[.slice none 0 0, .slice p 0 c] w fun e w' => e = .returned (.slice none 0 0) ∧ w' = w := by
 have hM := Lib.hid (make_zero w 0 (.slice none 0 0) [] (.nil _ _))
 have hN := Lib.hid (norm_nil w)
 go_enter Tryz.func200, Tryz.ntmps200
 go_wp2_with fail
 have hM := hM.out
 rw [show ((0 : Int) = (0 + 8 - 1) / 8) by decide] at hM
 refine hM.mono ?_
 rintro e w1 ⟨v', rfl, hw1, hr, ho⟩
 obtain rfl := hw1.symm
 rcases hr with ⟨rfl, -⟩ | ⟨gg, CC, rfl, _⟩
 ·go_wp2_with fail
  go_loopw [5, 6] (fun i kk wr => i = .int .i64 0 ∧ wr = w) (fun _ _ _ => 0)
  case atStart => exact ⟨rfl, rfl⟩
  case round =>
   obtain ⟨rfl, rfl⟩ := hrel
   go_wp2_with fail
   refine hN.out.mono ?_
   rintro e w1 ⟨rfl, hw1⟩
   obtain rfl := hw1.symm
   go_wp2_with fail
   go_ret
   exact ⟨rfl, rfl⟩
 ·simp [Value.ownBlock] at ho
def BytesIn (w : World) (v : Value) (xs : List Nat) : Prop := ∃ p c, v = .slice p xs.length c ∧ (∀ x ∈ xs, x < 256) ∧ (xs = [] ∨ ∃ b, p = some ⟨b, 0, none⟩ ∧ xs.length ≤ c ∧ VecB w b 0 xs ∧ b < w.heap.size)
theorem BytesIn.kept {w w' : World} {v : Value} {xs : List Nat} (h : BytesIn w v xs) (hk : Keeps (fun _ => False) w w') : BytesIn w' v xs := by
 obtain ⟨p, c, rfl, hb, h | ⟨b, rfl, hc, hv, hl⟩⟩ := h
 ·exact ⟨p, c, rfl, hb, .inl h⟩
 ·exact ⟨_, c, rfl, hb, .inr ⟨b, rfl, hc, fun j hj => hk.cellS (hv j hj) (fun h => h), Nat.lt_of_lt_of_le hl hk.size⟩⟩
set_option maxRecDepth 100000 in
theorem newSetBytes (w : World) (g : Nat) (v : Value) (xs : List Nat) (hz : IntAt w w.heap.size g 0 false (.slice none 0 0) 0) (h : BytesIn w v xs) (hn : xs.length ≤ 10000) :
  Calls Tryz.prog 134 #[.pointer (some ⟨g, 0, none⟩), v] w fun e w' => ∃ v', e = .returned (.pointer (some ⟨g, 0, none⟩)) ∧ IntOut w w' w.heap.size g 0 (.slice none 0 0) false v' (beVal xs) := by
 obtain ⟨p, c, rfl, hb, rfl | ⟨b, rfl, hc, hv, hl⟩⟩ := h
 ·have hS := Lib.hid (setBytes_none w p c)
  have c1 := hz.abs
  have ho : NatOut w w w.heap.size (.slice none 0 0) (.slice none 0 0) (digs WB 0) := ⟨hz.nat, Keeps.refl _ _, fun _ h => .inl h⟩
  obtain ⟨⟨⟨f1, c1', c2', f0, ⟨u0, c0'⟩, cx, cv⟩, -⟩, hst⟩ := And.intro (hz.mid2 hz hz ho) (hz.store ho false)
  have hst := Lib.hid hst
  clear hz ho
  go_enter Tryz.func134, Tryz.ntmps134
  go_wp2_with fail
  refine hS.out.mono ?_
  rintro e w1 ⟨rfl, hw1⟩
  obtain rfl := hw1.symm
  go_wp2_with fail
  go_ret
  exact ⟨_, rfl, hst.out⟩
 ·by_cases h0 : xs.length = 0
  ·obtain rfl : xs = [] := List.eq_nil_of_length_eq_zero h0
   have hS := Lib.hid (setBytes_none w (some ⟨b, 0, none⟩) c)
   have c1 := hz.abs
   have ho : NatOut w w w.heap.size (.slice none 0 0) (.slice none 0 0) (digs WB 0) := ⟨hz.nat, Keeps.refl _ _, fun _ h => .inl h⟩
   obtain ⟨⟨⟨f1, c1', c2', f0, ⟨u0, c0'⟩, cx, cv⟩, -⟩, hst⟩ := And.intro (hz.mid2 hz hz ho) (hz.store ho false)
   have hst := Lib.hid hst
   clear hz ho
   go_enter Tryz.func134, Tryz.ntmps134
   go_wp2_with fail
   refine hS.out.mono ?_
   rintro e w1 ⟨rfl, hw1⟩
   obtain rfl := hw1.symm
   go_wp2_with fail
   go_ret
   exact ⟨_, rfl, hst.out⟩
  ·exact intSetBytes_any w w.heap.size g 0 xs.length c 0 b false (.slice none 0 0) xs hz hv rfl hb (by omega) hc hn (Nat.le_refl _) (by simp [Value.ownBlock]) hl
set_option maxRecDepth 100000 in
theorem bigOf_any (w : World) (neg : Bool) (v : Value) (xs : List Nat) (h : BytesIn w v xs) (hn : xs.length ≤ 400) :
  Calls Tryz.prog 60 #[.agg #[.bool neg, v]] w fun e w' => ∃ g v', e = .returned (.tuple #[.pointer (some ⟨g, 0, none⟩), .bool true]) ∧ IntNew w w' g (neg && decide (beVal xs ≠ 0)) v' (beVal xs) := by
 obtain ⟨p, c, rfl, hrest⟩ := id h
 have k0 := (Keeps.refl (fun _ => False) w).alloc (.cells #[.bool neg, .slice p xs.length c] 24)
 have kI := k0.alloc (.cells #[.bool false, .slice none 0 0] 139)
 have hS := newSetBytes ((w.alloc (.cells #[.bool neg, .slice p xs.length c] 24)).alloc (.cells #[.bool false, .slice none 0 0] 139)) (w.alloc (.cells #[.bool neg, .slice p xs.length c] 24)).heap.size _ xs (newAt _ _) (h.kept kI) (by omega)
 have cn : ((w.alloc (.cells #[.bool neg, .slice p xs.length c] 24)).alloc (.cells #[.bool false, .slice none 0 0] 139)).cell? ⟨w.heap.size, 0, none⟩ = some (.bool neg) := by
  have hb := blk_new w (.cells #[.bool neg, .slice p xs.length c] 24 (0, 0))
  exact ((Keeps.refl (fun _ => False) _).alloc _).cellS (by rw [cellOf hb]; rfl) (fun h => h)
 simp only [World.size_alloc] at hS
 have hS := Lib.hid hS
 have hsz := kI.size
 have t0 : ¬ (400 : Int) < xs.length := by omega
 clear h hrest
 have hfin : ∀ (w2 : World) (v' : Value), IntOut ((w.alloc (.cells #[.bool neg, .slice p xs.length c] 24)).alloc (.cells #[.bool false, .slice none 0 0] 139)) w2 ((w.alloc (.cells #[.bool neg, .slice p xs.length c] 24)).alloc (.cells #[.bool false, .slice none 0 0] 139)).heap.size (w.heap.size + 1) 0 (.slice none 0 0) false v' (beVal xs) → IntNew w w2 (w.heap.size + 1) false v' (beVal xs) ∧ w2.cell? ⟨w.heap.size, 0, none⟩ = some (.bool neg) := fun w2 v' ho =>
  ⟨⟨ho.at_.lower hsz, ho.fresh kI (by omega) (fun _ h => by simp [Value.ownBlock] at h), by omega⟩, ho.keep.cellS cn (fun h => by simp [Value.ownBlock] at h)⟩
 have hfin := Lib.hid hfin
 cases neg
 ·go_enter Tryz.func60, Tryz.ntmps60
  go_wp2_with fail
  refine hS.out.mono ?_
  rintro e w2 ⟨v', rfl, ho⟩
  obtain ⟨hI, cN⟩ := hfin.out w2 v' (by simpa only [World.size_alloc] using ho)
  have hI := Lib.hid hI
  clear ho cn
  go_wp2_with fail
  go_ret2
  exact ⟨_, v', rfl, hI.out⟩
 ·go_enter Tryz.func60, Tryz.ntmps60
  go_wp2_with fail
  refine hS.out.mono ?_
  rintro e w2 ⟨v', rfl, ho⟩
  obtain ⟨hI, cN⟩ := hfin.out w2 v' (by simpa only [World.size_alloc] using ho)
  clear ho cn
  have hN := Lib.hid (intNegSelf_any w2 _ _ _ _ _ _ hI.at_)
  have hI2 : IntNew w (w2.setCell ⟨w.heap.size + 1, 0, none⟩ (.bool (decide (beVal xs ≠ 0) && !false))) (w.heap.size + 1) (decide (beVal xs ≠ 0) && !false) v' (beVal xs) :=
   ⟨(hI.at_.self _).at_, hI.keep.setCell _ _ (fun hh => absurd hh (by simp)), hI.ge⟩
  have hI2 := Lib.hid hI2
  clear hI
  go_wp2_with fail
  refine hN.out.mono ?_
  rintro e w3 ⟨rfl, rfl⟩
  go_wp2_with fail
  go_ret2
  refine ⟨_, v', rfl, ?_⟩
  have := hI2.out
  simpa using this
end Go.Proofs.YtgamldefngehlaaGreatDoor
