/- Parts of the walk. -/
import Derived.Test.YthocmhkafgpgbaaGreatDoorM04
import Derived.Test.YthocmhkafgpgbaaGreatDoorM07
import Derived.Defers
set_option linter.unusedVariables false
set_option linter.unusedSimpArgs false
namespace Go.Proofs.YthocmhkafgpgbaaGreatDoor
open Go.RowKit
structure Thr (w : World) : Prop where
 div : w.cell? ⟨2, 0, none⟩ = some (.int .i64 40)
 mul : w.cell? ⟨7, 0, none⟩ = some (.int .i64 40)
 sqr : w.cell? ⟨5, 0, none⟩ = some (.int .i64 12)
 sqrK : w.cell? ⟨6, 0, none⟩ = some (.int .i64 80)
def GL : Nat := max (max 2 7) (max 5 6) + 1
theorem Thr.kept {w w' : World} {T : Nat → Prop} (h : Thr w) (hk : Keeps T w w') (hT : ∀ k, k < GL → ¬ T k) : Thr w' :=
 ⟨hk.cellS h.div (hT _ (by decide)), hk.cellS h.mul (hT _ (by decide)), hk.cellS h.sqr (hT _ (by decide)), hk.cellS h.sqrK (hT _ (by decide))⟩
theorem Made.early {w w1 : World} {base n q : Nat} {zv : Value} {g : Nat} {C : List Nat} (h : Made (w.drewN q) w1 base n zv g C) : Made w w1 base n zv g C := ⟨h.fit, h.blk, h.words, h.base, h.big, ⟨h.keep.os, h.keep.tape, h.keep.output, h.keep.size, h.keep.blk⟩, h.own⟩
theorem Made.weaken {w w1 : World} {base n : Nat} {zv : Value} {g : Nat} {C : List Nat} (h : Made w w1 base n (.slice none 0 0) g C) : Made w w1 base n zv g C := ⟨h.fit, h.blk, h.words, h.base, h.big, h.keep, .inr (h.own.resolve_left (by simp [Value.ownBlock]))⟩
theorem Made.apart {w w1 : World} {base n gx m c : Nat} {zv : Value} {g : Nat} {C Cx : List Nat} (h : Made w w1 base n zv g C) (hs : sameBlk zv (.slice (some ⟨gx, 0, none⟩) m c) = false) (hC : Blk w gx Cx) : gx ≠ g := by
 intro e
 subst e
 rcases h.own with h1 | h1
 ·rw [Bool.eq_false_iff] at hs
  exact hs ((sameBlk_iff _ _).2 (by rw [h1]; simp [Value.ownBlock]))
 ·have := hC.lt
  omega
theorem sameBlk_nil (u : Value) : sameBlk (.slice none 0 0) u = false := by simp [sameBlk, Value.ownBlock]
set_option maxRecDepth 100000 in
set_option maxHeartbeats 1000000 in
theorem mul_core (w : World) (base bx by_ : Nat) (zv xv yv stk : Value) (zs : List Nat) (a b : Nat) (h : NatRow w base zv zs) (hx : NatAt w bx xv a) (hy : NatAt w by_ yv b) (hB : base ≤ w.heap.size) (hg : Thr w) (hGL : GL ≤ base)
  (hl : (digs WB a).length ≤ 1000) (hl' : (digs WB b).length < 40) (hle : (digs WB b).length ≤ (digs WB a).length) :
  Calls Tryz.prog 295 #[zv, stk, xv, yv] w fun e w' => ∃ v', e = .returned v' ∧ NatOut w w' base zv v' (digs WB (a * b)) := by
 obtain ⟨xs, hxs⟩ : ∃ xs, digs WB a = xs := ⟨_, rfl⟩
 obtain ⟨ys, hys⟩ : ∃ ys, digs WB b = ys := ⟨_, rfl⟩
 have ha := val_digs WB_one a
 have hb := val_digs WB_one b
 have wx := words_digs WB_one a
 have wy := words_digs WB_one b
 unfold NatAt at hx hy
 rw [hxs] at hx hl ha wx hle
 rw [hys] at hy hl' hb wy hle
 obtain ⟨m, hm⟩ : ∃ m, xs.length = m := ⟨_, rfl⟩
 obtain ⟨n, hn⟩ : ∃ n, ys.length = n := ⟨_, rfl⟩
 have t0 : ¬ (m : Int) < n := by omega
 by_cases hn0 : n = 0
 ·obtain rfl : ys = [] := List.eq_nil_of_length_eq_zero (by omega)
  obtain ⟨p, nz, c, rfl, h'⟩ := h.empty
  obtain ⟨px, cx, rfl⟩ := hx.form
  obtain ⟨py, cy, rfl⟩ := hy.form
  rw [hm]
  have t9 : ¬ (m : Int) < 0 := by omega
  have hab : digs WB (a * b) = [] := by rw [← hb, val_nil, Nat.mul_zero, digs_zero]
  by_cases hm0 : m = 0
  ·have t1 : ((m : Int) == 0) = true := by simp; omega
   go_enter Tryz.func295, Tryz.ntmps295
   go_wp2_with fail
   go_ret
   exact ⟨_, rfl, .of_empty h'⟩
  ·have t1 : ((m : Int) == 0) = false := by simp; omega
   go_enter Tryz.func295, Tryz.ntmps295
   go_wp2_with fail
   go_ret
   exact ⟨_, rfl, .of_empty h'⟩
 ·by_cases hn1 : n = 1
  ·obtain ⟨gy, Cy, rfl, hby, hCy, hwy, hty, h0y, hly, hyC⟩ := hy.mk' (by omega)
   have hvy := hCy.row (xs := ys) hty (by omega)
   have hc := hvy 0 (by omega)
   have hy1 : ys = [ys[0]] := List.ext_getElem (by simp; omega) fun i h1 h2 => by
    obtain rfl : i = 0 := by omega
    simp
   have hbv : ys[0] = b := by
    have := congrArg (val WB) hy1
    rw [hb, val_one] at this
    exact this.symm
   rw [hbv, Nat.add_zero] at hc
   have hbl : b < WB := by rw [← hbv]; exact wy.get 0 (by omega)
   have hP := Lib.hid (mulAddWW_any w base bx b 0 zv xv zs xs h hx hB (by omega) hbl WB_pos)
   obtain ⟨px, cx, rfl⟩ := hx.form
   have t1 : ((m : Int) == 0) = false := by simp; omega
   have t9 : ¬ (m : Int) < 1 := by omega
   rw [hm] at hP ⊢
   rw [hn, hn1]
   go_enter Tryz.func295, Tryz.ntmps295
   go_wp2_with fail
   refine hP.out.mono ?_
   rintro e w1 ⟨v', rfl, ho⟩
   go_wp2_with fail
   go_ret
   refine ⟨_, rfl, ?_⟩
   rw [ha, Nat.add_zero] at ho
   exact ho
  ·obtain ⟨gx, Cx, rfl, hbx, hCx, hwx, htx, h0x, hlx, hxC⟩ := hx.mk' (by omega)
   obtain ⟨gy, Cy, rfl, hby, hCy, hwy, hty, h0y, hly, hyC⟩ := hy.mk' (by omega)
   have hvx := hCx.row (xs := xs) htx (by omega)
   have hvy := hCy.row (xs := ys) hty (by omega)
   obtain ⟨k, hk⟩ : ∃ k, m + n = k := ⟨_, rfl⟩
   have e1 : (m : Int) + n = (k : Int) := by omega
   have t1 : ((m : Int) == 0) = false := by simp; omega
   have t2 : ((n : Int) == 0) = false := by simp; omega
   have t3 : ((n : Int) == 1) = false := by simp; omega
   have t4 : (n : Int) < 40 := by omega
   have hAx := alias_any w base bx zv _ zs xs h hx
   have hAy := fun q => alias_any (w.drewN q) base by_ zv _ zs ys h hy
   rw [hm] at hAx
   rw [hn] at hAy
   rw [hm] at htx hxC ⊢
   rw [hn] at hty hyC ⊢
   by_cases hsx : sameBlk zv (.slice (some ⟨gx, 0, none⟩) m Cx.length) = true
   ·rw [hsx] at hAx
    have hAx := Lib.hid hAx
    clear hAy
    go_enter Tryz.func295, Tryz.ntmps295
    go_wp2_with fail
    refine hAx.out.mono ?_
    rintro e w0 ⟨rfl, q, rfl⟩
    have hM := Lib.hid (make_any (w.drewN q) base k (.slice none 0 0) _ (.nil _ _) (by omega) (by omega) hB)
    go_wp2_with fail
    refine hM.out.mono ?_
    rintro e w1 ⟨g, C, rfl, hmd0⟩
    have hapx : gx ≠ g := hmd0.apart (m := 0) (c := 0) (sameBlk_nil _) hCx
    have hapy : gy ≠ g := hmd0.apart (m := 0) (c := 0) (sameBlk_nil _) hCy
    have hmd : Made w w1 base k zv g C := hmd0.early.weaken
    clear hmd0
    have hf := hmd.fit
    have hP := Lib.hid (basicMul_any w1 g gx gy m n Cx.length Cy.length k C xs ys hmd.blk (hvx.keptN hmd.keep) (hvy.keptN hmd.keep) hm hn hf hk (by omega) (by omega) hapx hapy wx wy)
    have hg1 := hg.kept hmd.keep (fun _ _ h => h)
    have c7 := hg1.mul
    have c8 := hg1.sqr
    have c9 := hg1.sqrK
    go_wp2_with fail
    refine hP.out.mono ?_
    rintro e w2 ⟨z1, rfl, hv1, ho1⟩
    have hN := Lib.hid (hmd.normCall (by omega) ho1 (show val WB z1 = a * b by rw [hv1, ha, hb]))
    clear ho1
    go_wp2_with fail
    refine hN.out.mono ?_
    rintro e w5 ⟨v', rfl, hw5, ho⟩
    obtain rfl := hw5.symm
    go_wp2_with fail
    go_ret
    exact ⟨_, rfl, ho⟩
   ·replace hsx := Bool.eq_false_iff.2 hsx
    rw [hsx] at hAx
    have hAx := Lib.hid hAx
    by_cases hsy : sameBlk zv (.slice (some ⟨gy, 0, none⟩) n Cy.length) = true
    ·simp only [hsy] at hAy
     have hAy := Lib.hid hAy
     go_enter Tryz.func295, Tryz.ntmps295
     go_wp2_with fail
     refine hAx.out.mono ?_
     rintro e w0 ⟨rfl, q, rfl⟩
     go_wp2_with fail
     refine (hAy.out q).mono ?_
     rintro e w0 ⟨rfl, q1, rfl⟩
     have hM := Lib.hid (make_any (w.drewN (q + q1)) base k (.slice none 0 0) _ (.nil _ _) (by omega) (by omega) hB)
     go_wp2_with fail
     refine hM.out.mono ?_
     rintro e w1 ⟨g, C, rfl, hmd0⟩
     have hapx : gx ≠ g := hmd0.apart (m := 0) (c := 0) (sameBlk_nil _) hCx
     have hapy : gy ≠ g := hmd0.apart (m := 0) (c := 0) (sameBlk_nil _) hCy
     have hmd : Made w w1 base k zv g C := hmd0.early.weaken
     clear hmd0
     have hf := hmd.fit
     have hP := Lib.hid (basicMul_any w1 g gx gy m n Cx.length Cy.length k C xs ys hmd.blk (hvx.keptN hmd.keep) (hvy.keptN hmd.keep) hm hn hf hk (by omega) (by omega) hapx hapy wx wy)
     have hg1 := hg.kept hmd.keep (fun _ _ h => h)
     have c7 := hg1.mul
     have c8 := hg1.sqr
     have c9 := hg1.sqrK
     go_wp2_with fail
     refine hP.out.mono ?_
     rintro e w2 ⟨z1, rfl, hv1, ho1⟩
     have hN := Lib.hid (hmd.normCall (by omega) ho1 (show val WB z1 = a * b by rw [hv1, ha, hb]))
     clear ho1
     go_wp2_with fail
     refine hN.out.mono ?_
     rintro e w5 ⟨v', rfl, hw5, ho⟩
     obtain rfl := hw5.symm
     go_wp2_with fail
     go_ret
     exact ⟨_, rfl, ho⟩
    ·replace hsy := Bool.eq_false_iff.2 hsy
     simp only [hsy] at hAy
     have hAy := Lib.hid hAy
     go_enter Tryz.func295, Tryz.ntmps295
     go_wp2_with fail
     refine hAx.out.mono ?_
     rintro e w0 ⟨rfl, q, rfl⟩
     go_wp2_with fail
     refine (hAy.out q).mono ?_
     rintro e w0 ⟨rfl, q1, rfl⟩
     have hM := Lib.hid (make_any (w.drewN (q + q1)) base k zv _ (h) (by omega) (by omega) hB)
     go_wp2_with fail
     refine hM.out.mono ?_
     rintro e w1 ⟨g, C, rfl, hmd0⟩
     have hapx : gx ≠ g := hmd0.apart hsx hCx
     have hapy : gy ≠ g := hmd0.apart hsy hCy
     have hmd : Made w w1 base k zv g C := hmd0.early
     clear hmd0
     have hf := hmd.fit
     have hP := Lib.hid (basicMul_any w1 g gx gy m n Cx.length Cy.length k C xs ys hmd.blk (hvx.keptN hmd.keep) (hvy.keptN hmd.keep) hm hn hf hk (by omega) (by omega) hapx hapy wx wy)
     have hg1 := hg.kept hmd.keep (fun _ _ h => h)
     have c7 := hg1.mul
     have c8 := hg1.sqr
     have c9 := hg1.sqrK
     go_wp2_with fail
     refine hP.out.mono ?_
     rintro e w2 ⟨z1, rfl, hv1, ho1⟩
     have hN := Lib.hid (hmd.normCall (by omega) ho1 (show val WB z1 = a * b by rw [hv1, ha, hb]))
     clear ho1
     go_wp2_with fail
     refine hN.out.mono ?_
     rintro e w5 ⟨v', rfl, hw5, ho⟩
     obtain rfl := hw5.symm
     go_wp2_with fail
     go_ret
     exact ⟨_, rfl, ho⟩
theorem mul_any (w : World) (base bx by_ : Nat) (zv xv yv stk : Value) (zs : List Nat) (a b : Nat) (h : NatRow w base zv zs) (hx : NatAt w bx xv a) (hy : NatAt w by_ yv b) (hB : base ≤ w.heap.size) (hg : Thr w) (hGL : GL ≤ base)
  (hl : (digs WB a).length < 40) (hl' : (digs WB b).length < 40) :
  Calls Tryz.prog 295 #[zv, stk, xv, yv] w fun e w' => ∃ v', e = .returned v' ∧ NatOut w w' base zv v' (digs WB (a * b)) := by
 by_cases hle : (digs WB b).length ≤ (digs WB a).length
 ·exact mul_core w base bx by_ zv xv yv stk zs a b h hx hy hB hg hGL (by omega) hl' hle
 ·have hA := Lib.hid (mul_core w base by_ bx zv yv xv stk zs b a h hy hx hB hg hGL (by omega) hl (by omega))
  unfold NatAt at hx hy
  have t0 : ((digs WB a).length : Int) < (digs WB b).length := by omega
  obtain ⟨px, cx, rfl⟩ := hx.form
  obtain ⟨py, cy, rfl⟩ := hy.form
  go_enter Tryz.func295, Tryz.ntmps295
  go_wp2_with fail
  refine hA.out.mono ?_
  rintro e w1 ⟨v', rfl, ho⟩
  go_wp2_with fail
  go_ret
  refine ⟨_, rfl, ?_⟩
  rw [Nat.mul_comm]
  exact ho
end Go.Proofs.YthocmhkafgpgbaaGreatDoor
namespace Go.Proofs.YthocmhkafgpgbaaGreatDoor
open Go.RowKit
theorem two_cells {w : World} {g lo hi : Nat} {C : List Nat} (h : Blk w g C) (hC : 2 ≤ C.length) (hl : lo < WB) (hh : hi < WB) : VecOut w ((w.setCell ⟨g, 1, none⟩ (.int .u64 (hi : Int))).setCell ⟨g, 0, none⟩ (.int .u64 (lo : Int))) g 0 C [lo, hi] 2 := by
 have hb := (h.set 1 hi).set 0 lo
 have e : (C.set 1 hi).set 0 lo = over C 0 [lo, hi] := by
  match C, hC with
  | c0 :: c1 :: r, _ => simp [over]
 rw [e] at hb
 exact ⟨rfl, Words.cons hl (Words.one hh), hb, ((Keeps.refl (fun k => k = g) w).setCell ⟨g, 1, none⟩ (.int .u64 (hi : Int)) (fun _ => rfl)).setCell ⟨g, 0, none⟩ (.int .u64 (lo : Int)) (fun _ => rfl)⟩
set_option maxRecDepth 100000 in
set_option maxHeartbeats 1000000 in
theorem sqr_any (w : World) (base bx : Nat) (zv xv stk : Value) (zs : List Nat) (a : Nat) (h : NatRow w base zv zs) (hx : NatAt w bx xv a) (hB : base ≤ w.heap.size) (hg : Thr w) (hGL : GL ≤ base)
  (hl : (digs WB a).length < 12) :
  Calls Tryz.prog 294 #[zv, stk, xv] w fun e w' => ∃ v', e = .returned v' ∧ NatOut w w' base zv v' (digs WB (a * a)) := by
 obtain ⟨xs, hxs⟩ : ∃ xs, digs WB a = xs := ⟨_, rfl⟩
 have ha := val_digs WB_one a
 have wx := words_digs WB_one a
 unfold NatAt at hx
 rw [hxs] at hx hl ha wx
 obtain ⟨m, hm⟩ : ∃ m, xs.length = m := ⟨_, rfl⟩
 by_cases hn0 : m = 0
 ·obtain rfl : xs = [] := List.eq_nil_of_length_eq_zero (by omega)
  obtain ⟨p, nz, c, rfl, h'⟩ := h.empty
  obtain ⟨px, cx, rfl⟩ := hx.form
  have hab : digs WB (a * a) = [] := by rw [← ha, val_nil, Nat.mul_zero, digs_zero]
  go_enter Tryz.func294, Tryz.ntmps294
  go_wp2_with fail
  go_ret
  exact ⟨_, rfl, by first | exact .of_empty h' | (rw [hab]; exact .of_empty h')⟩
 ·obtain ⟨gx, Cx, rfl, hbx, hCx, hwx, htx, h0x, hlx, hxC⟩ := hx.mk' (by omega)
  have hvx := hCx.row (xs := xs) htx (by omega)
  by_cases hn1 : m = 1
  ·have hc := hvx 0 (by omega)
   have hx1 : xs = [xs[0]] := List.ext_getElem (by simp; omega) fun i h1 h2 => by
    obtain rfl : i = 0 := by omega
    simp
   have hbv : xs[0] = a := by
    have := congrArg (val WB) hx1
    rw [ha, val_one] at this
    exact this.symm
   rw [hbv, Nat.add_zero] at hc
   have hal : a < WB := by rw [← hbv]; exact wx.get 0 (by omega)
   have hM := Lib.hid (make_any w base 2 zv zs h (by omega) (by omega) hB)
   rw [hm, hn1]
   go_enter Tryz.func294, Tryz.ntmps294
   go_wp2_with fail
   refine hM.out.mono ?_
   rintro e w1 ⟨g, C, rfl, hmd⟩
   have hf := hmd.fit
   have hP := Lib.hid (mulWW_any a a hal hal w1)
   have hme := mac_eq a a 0
   have hl1 := macL_lt a a 0
   have hl2 := macH_lt hal hal WB_pos
   generalize macL a a 0 = lo at *
   generalize macH a a 0 = hi at *
   have ho := two_cells hmd.blk hf hl1 hl2
   have hN := Lib.hid (hmd.normCall (by omega) ho (show val WB [lo, hi] = a * a by rw [val_cons, val_one]; omega))
   have c0 := hmd.blk.cell 0 (by omega)
   have c1 := hmd.blk.cell 1 (by omega)
   have f0 := hmd.blk.frozen 0
   have f1 := hmd.blk.frozen 1
   have b1 : (1 : Int) < 2 := by omega
   clear ho hme hl1 hl2
   go_wp2_with fail
   refine hP.out.mono ?_
   rintro e w2 ⟨rfl, hw2⟩
   obtain rfl := hw2.symm
   go_wp2_with fail
   refine hN.out.mono ?_
   rintro e w5 ⟨v', rfl, hw5, ho⟩
   obtain rfl := hw5.symm
   go_wp2_with fail
   go_ret
   exact ⟨_, rfl, ho⟩
  ·obtain ⟨k, hk⟩ : ∃ k, m + m = k := ⟨_, rfl⟩
   have e1 : 2 * (m : Int) = (k : Int) := by omega
   have e1' : (2 : Int) * m = (k : Int) := by omega
   have t2 : ((m : Int) == 0) = false := by simp; omega
   have t3 : ((m : Int) == 1) = false := by simp; omega
   have t4 : (m : Int) < 12 := by omega
   have t5 : (m : Int) < 80 := by omega
   have hAx := alias_any w base bx zv _ zs xs h hx
   rw [hm] at hAx
   rw [hm] at htx hxC ⊢
   by_cases hsx : sameBlk zv (.slice (some ⟨gx, 0, none⟩) m Cx.length) = true
   ·rw [hsx] at hAx
    have hAx := Lib.hid hAx
    go_enter Tryz.func294, Tryz.ntmps294
    go_wp2_with fail
    refine hAx.out.mono ?_
    rintro e w0 ⟨rfl, q, rfl⟩
    have hM := Lib.hid (make_any (w.drewN q) base k (.slice none 0 0) _ (.nil _ _) (by omega) (by omega) hB)
    go_wp2_with fail
    refine hM.out.mono ?_
    rintro e w1 ⟨g, C, rfl, hmd0⟩
    have hapx : gx ≠ g := hmd0.apart (m := 0) (c := 0) (sameBlk_nil _) hCx
    have hapy : gx ≠ g := hmd0.apart (m := 0) (c := 0) (sameBlk_nil _) hCx
    have hmd : Made w w1 base k zv g C := hmd0.early.weaken
    clear hmd0
    have hf := hmd.fit
    have hP := Lib.hid (basicMul_any w1 g gx gx m m Cx.length Cx.length k C xs xs hmd.blk (hvx.keptN hmd.keep) (hvx.keptN hmd.keep) hm hm hf hk (by omega) (by omega) hapx hapy wx wx)
    have hg1 := hg.kept hmd.keep (fun _ _ h => h)
    have c7 := hg1.mul
    have c8 := hg1.sqr
    have c9 := hg1.sqrK
    go_wp2_with fail
    refine hP.out.mono ?_
    rintro e w2 ⟨z1, rfl, hv1, ho1⟩
    have hN := Lib.hid (hmd.normCall (by omega) ho1 (show val WB z1 = a * a by rw [hv1, ha]))
    clear ho1
    go_wp2_with fail
    refine hN.out.mono ?_
    rintro e w5 ⟨v', rfl, hw5, ho⟩
    obtain rfl := hw5.symm
    go_wp2_with fail
    go_ret
    exact ⟨_, rfl, ho⟩
   ·replace hsx := Bool.eq_false_iff.2 hsx
    rw [hsx] at hAx
    have hAx := Lib.hid hAx
    go_enter Tryz.func294, Tryz.ntmps294
    go_wp2_with fail
    refine hAx.out.mono ?_
    rintro e w0 ⟨rfl, q, rfl⟩
    have hM := Lib.hid (make_any (w.drewN q) base k zv _ (h) (by omega) (by omega) hB)
    go_wp2_with fail
    refine hM.out.mono ?_
    rintro e w1 ⟨g, C, rfl, hmd0⟩
    have hapx : gx ≠ g := hmd0.apart hsx hCx
    have hapy : gx ≠ g := hmd0.apart hsx hCx
    have hmd : Made w w1 base k zv g C := hmd0.early
    clear hmd0
    have hf := hmd.fit
    have hP := Lib.hid (basicMul_any w1 g gx gx m m Cx.length Cx.length k C xs xs hmd.blk (hvx.keptN hmd.keep) (hvx.keptN hmd.keep) hm hm hf hk (by omega) (by omega) hapx hapy wx wx)
    have hg1 := hg.kept hmd.keep (fun _ _ h => h)
    have c7 := hg1.mul
    have c8 := hg1.sqr
    have c9 := hg1.sqrK
    go_wp2_with fail
    refine hP.out.mono ?_
    rintro e w2 ⟨z1, rfl, hv1, ho1⟩
    have hN := Lib.hid (hmd.normCall (by omega) ho1 (show val WB z1 = a * a by rw [hv1, ha]))
    clear ho1
    go_wp2_with fail
    refine hN.out.mono ?_
    rintro e w5 ⟨v', rfl, hw5, ho⟩
    obtain rfl := hw5.symm
    go_wp2_with fail
    go_ret
    exact ⟨_, rfl, ho⟩
end Go.Proofs.YthocmhkafgpgbaaGreatDoor
namespace Go.Proofs.YthocmhkafgpgbaaGreatDoor
open Go.RowKit
def qdig (y : Nat) : List Nat → List Nat
 | [] => []
 | x :: xs => (val WB xs % y * WB + x) / y :: qdig y xs
theorem qdig_length (y : Nat) : ∀ xs, (qdig y xs).length = xs.length
 | [] => rfl
 | x :: xs => by simp [qdig, qdig_length y xs]
theorem qdig_val (y : Nat) (hy : 0 < y) : ∀ xs, val WB (qdig y xs) = val WB xs / y
 | [] => by simp [qdig, val_nil]
 | x :: xs => by
  rw [qdig, val_cons, qdig_val y hy xs, val_cons]
  have e : x + WB * val WB xs = y * (WB * (val WB xs / y)) + (val WB xs % y * WB + x) := by
   have h := Nat.div_add_mod (val WB xs) y
   have h2 : WB * val WB xs = WB * (y * (val WB xs / y)) + WB * (val WB xs % y) := by rw [← Nat.mul_add, h]
   rw [h2, Nat.mul_left_comm, Nat.mul_comm (val WB xs % y)]
   omega
  rw [e, Nat.mul_add_div hy]
  omega
theorem qdig_lt {y x r : Nat} (hr : r < y) (hx : x < WB) : (r * WB + x) / y < WB := by
 rw [Nat.div_lt_iff_lt_mul (by omega)]
 have := Nat.mul_le_mul_right WB hr
 rw [Nat.succ_mul] at this
 rw [Nat.mul_comm WB y]
 omega
theorem qdig_words (y : Nat) (hy : 0 < y) : ∀ xs, Words WB xs → Words WB (qdig y xs)
 | [], _ => .nil
 | x :: xs, h => Words.cons (qdig_lt (Nat.mod_lt _ hy) (h x (by simp))) (qdig_words y hy xs (fun z hz => h z (by simp [hz])))
theorem qdig_get (y : Nat) : ∀ (xs : List Nat) (i : Nat) (h : i < xs.length), (qdig y xs)[i]? = some ((val WB (xs.drop (i + 1)) % y * WB + xs[i]) / y)
 | x :: xs, 0, _ => by simp [qdig]
 | x :: xs, i + 1, h => by
  simp only [List.length_cons] at h
  simpa [qdig] using qdig_get y xs i (by omega)
theorem qdig_rem (y : Nat) (xs : List Nat) (i : Nat) (h : i < xs.length) : (val WB (xs.drop (i + 1)) % y * WB + xs[i]) % y = val WB (xs.drop i) % y := by
 rw [val_drop_cons xs i h, Nat.add_comm, Nat.add_mod, Nat.mul_mod, Nat.mod_mod, ← Nat.mul_mod, ← Nat.add_mod, Nat.mul_comm WB]
set_option maxRecDepth 100000 in
set_option maxHeartbeats 1000000 in
theorem divWVW_any (w : World) (g gx y n cx : Nat) (C xs : List Nat) (hz : Blk w g C) (hx : Vec w gx 0 xs) (hn : xs.length = n) (h0 : 0 < n) (hC : n ≤ C.length) (hl : n ≤ 10000) (wx : Words WB xs) (hy0 : y ≠ 0) (hy : y < WB) :
  Calls Tryz.prog 284 #[.slice (some ⟨g, 0, none⟩) n C.length, .int .u64 0, .slice (some ⟨gx, 0, none⟩) n cx, .int .u64 y] w fun e w' => e = .returned (.int .u64 (val WB xs % y : Nat)) ∧ VecOut w w' g 0 C (qdig y xs) n := by
 by_cases h1 : n = 1
 ·subst h1
  have hx1 : xs = [xs[0]] := List.ext_getElem (by simp; omega) fun i h1 h2 => by
   obtain rfl : i = 0 := by omega
   simp
  have hc := hx 0 (by omega)
  have wi := wx.get 0 (by omega)
  have hv : val WB xs = xs[0] := by
   have := congrArg (val WB) hx1
   rwa [val_one] at this
  have hqd : qdig y xs = [xs[0] / y] := by
   have := congrArg (qdig y) hx1
   rwa [show qdig y [xs[0]] = [xs[0] / y] by simp [qdig, val_nil]] at this
  rw [hv, hqd]
  generalize xs[0] = x at *
  rw [Nat.add_zero] at hc
  have hP := bitsDiv_any 0 x y (by omega) wi hy (.inl rfl) w
  rw [Nat.zero_mul, Nat.zero_add] at hP
  have hql : x / y < WB := Nat.lt_of_le_of_lt (Nat.div_le_self _ _) wi
  have hrl : x % y < WB := Nat.lt_of_le_of_lt (Nat.mod_le _ _) wi
  have hs := fun q => ((VecOut.start (oz := 0) hz).drewN q).snoc (C := C) (x / y) hql (by omega)
  rw [Nat.add_zero] at hs
  generalize x / y = qi at *
  generalize x % y = r at *
  have hP := Lib.hid hP
  have c0 := hz.cell 0 (by omega)
  have f0 := hz.frozen 0
  have w1 := wrapW wi
  have w2 := wrapW hy
  have w3 := wrapW hql
  have w4 := wrapW hrl
  have hs := Lib.hid hs
  clear wi hy hql hrl hv hqd
  go_enter Tryz.func284, Tryz.ntmps284
  go_wp2_with fail
  refine hP.out.mono ?_
  rintro e w1 ⟨rfl, q, rfl⟩
  go_wp2_with fail
  go_ret
  exact ⟨rfl, hs.out q⟩
 ·have t1 : ¬ (n : Int) = 1 := by omega
  have hR := Lib.hid (reciprocalWord_any y hy0 hy w)
  have hD := Lib.hid (fun x1 x0 hx1 hx0 => divWW_any x1 x0 y hy0 hy hx1 hx0)
  generalize recip (y * 2 ^ nlzN y) = rc at *
  obtain ⟨n1, hn1⟩ : ∃ n1, n - 1 = n1 := ⟨_, rfl⟩
  have e1 : (n : Int) - 1 = (n1 : Int) := by omega
  go_enter Tryz.func284, Tryz.ntmps284
  go_wp2_with fail
  refine hR.out.mono ?_
  rintro e w1 ⟨rfl, q, rfl⟩
  go_wp2_with fail
  go_loopw [8, 12] (fun r i wr => ∃ (k : Int) (j : Nat), j ≤ n ∧ i = .int .i64 k ∧ k + 1 = j ∧ r = .int .u64 (val WB (xs.drop j) % y : Nat) ∧ TopOut w wr g 0 C (qdig y xs) j) (fun _ i _ => (intOf i + 1).toNat)
  case atStart => exact ⟨n1, n, Nat.le_refl _, rfl, by omega, by rw [List.drop_of_length_le (by omega), val_nil, Nat.zero_mod]; rfl, (TopOut.start hz (by rw [qdig_length, hn])).drewN _⟩
  case round =>
   obtain ⟨k, j, hj, rfl, hk, rfl, ho⟩ := hrel
   by_cases hj0 : j = 0
   ·subst hj0
    obtain rfl : k = -1 := by omega
    rw [List.drop_zero]
    obtain ⟨rm, hrm⟩ : ∃ rm, val WB xs % y = rm := ⟨_, rfl⟩
    rw [hrm]
    go_wp2_with fail
    go_ret
    exact ⟨by rw [hrm]; rfl, ho.done (qdig_words y (by omega) xs wx) (by rw [qdig_length, hn])⟩
   ·obtain ⟨i, rfl⟩ : ∃ i, j = i + 1 := ⟨j - 1, by omega⟩
    obtain rfl : k = (i : Int) := by omega
    have hc := ho.read hz hx (.inr rfl) (by omega) i (by omega) (by omega)
    obtain ⟨u, hu⟩ := ho.there (by rw [qdig_length]; omega) (by rw [qdig_length]; omega) i (by rw [qdig_length]; omega)
    have hf := ho.blk.frozen i
    rw [Nat.zero_add] at hc hu
    have wi := wx.get i (by omega)
    have hrl := Nat.mod_lt (val WB (xs.drop (i + 1))) (show y > 0 by omega)
    have hq := qdig_get y xs i (by omega)
    have hrm := qdig_rem y xs i (by omega)
    generalize val WB (xs.drop (i + 1)) % y = r at *
    have hP := hD.out r xs[i] hrl wi
    rw [hrm] at hP
    generalize (r * WB + xs[i]) / y = qi at *
    obtain ⟨r', hr'⟩ : ∃ r', val WB (xs.drop i) % y = r' := ⟨_, rfl⟩
    rw [hr'] at hP hrm
    generalize xs[i] = xi at *
    have hP := Lib.hid hP
    have b0 : (0 : Int) ≤ i := by omega
    have b1 : (i : Int) < n := by omega
    have hi1 : (i : Int) - 1 + 1 = (i : Int) := by omega
    go_wp2_with fail
    refine (hP.out _).mono ?_
    rintro e w2 ⟨rfl, hw2⟩
    obtain rfl := hw2.symm
    have hs := ho.set hq (by rw [qdig_length]; omega)
    rw [Nat.zero_add] at hs
    have hs := Lib.hid hs
    go_wp2_with fail
    go_roundw
    case rel => exact ⟨_, i, by omega, rfl, by omega, by rw [hr'], hs.out⟩
    case measure => simp [intOf]
set_option maxRecDepth 100000 in
set_option maxHeartbeats 1000000 in
theorem divW_any (w : World) (base bx y : Nat) (zv xv : Value) (zs : List Nat) (a : Nat) (h : NatRow w base zv zs) (hx : NatAt w bx xv a) (hB : base ≤ w.heap.size) (hl : (digs WB a).length ≤ 10000) (hy0 : y ≠ 0) (hy : y < WB) :
  Calls Tryz.prog 260 #[zv, xv, .int .u64 y] w fun e w' => ∃ v', e = .returned (.tuple #[v', .int .u64 (a % y : Nat)]) ∧ NatOut w w' base zv v' (digs WB (a / y)) := by
 obtain ⟨xs, hxs⟩ : ∃ xs, digs WB a = xs := ⟨_, rfl⟩
 have ha := val_digs WB_one a
 have wx := words_digs WB_one a
 unfold NatAt at hx
 rw [hxs] at hx hl ha wx
 have t0 : ((y : Int) == 0) = false := by simp; omega
 by_cases hy1 : y = 1
 ·subst hy1
  have hS := Lib.hid (set_any w base bx zv xv zs xs h hx hB (by omega))
  obtain ⟨px, cx, rfl⟩ := hx.form
  go_enter Tryz.func260, Tryz.ntmps260
  go_wp2_with fail
  refine hS.out.mono ?_
  rintro e w1 ⟨v', rfl, ho⟩
  go_wp2_with fail
  go_ret2
  refine ⟨_, by rw [Nat.mod_one]; rfl, ?_⟩
  rw [Nat.div_one, hxs]
  exact ho
 ·have t1 : ((y : Int) == 1) = false := by simp; omega
  by_cases h0 : xs.length = 0
  ·obtain rfl : xs = [] := List.eq_nil_of_length_eq_zero h0
   rw [val_nil] at ha
   subst ha
   obtain ⟨p, n, c, rfl, h'⟩ := h.empty
   obtain ⟨px, cx, rfl⟩ := hx.form
   go_enter Tryz.func260, Tryz.ntmps260
   go_wp2_with fail
   go_ret2
   refine ⟨_, by rw [Nat.zero_mod]; rfl, ?_⟩
   rw [Nat.zero_div, digs_zero]
   exact .of_empty h'
  ·obtain ⟨gx, Cx, rfl, hbx, hCx, hwx, htx, h0x, hlx, hxC⟩ := hx.mk' (by omega)
   have hvx := hCx.row (xs := xs) htx (by omega)
   obtain ⟨m, hm⟩ : ∃ m, xs.length = m := ⟨_, rfl⟩
   have hM := Lib.hid (make_any w base m zv zs h (by omega) (by omega) hB)
   have t2 : ((m : Int) == 0) = false := by simp; omega
   rw [hm] at htx hxC ⊢
   go_enter Tryz.func260, Tryz.ntmps260
   go_wp2_with fail
   refine hM.out.mono ?_
   rintro e w1 ⟨g, C, rfl, hmd⟩
   have hf := hmd.fit
   have hP := divWVW_any w1 g gx y m Cx.length C xs hmd.blk (hvx.keptN hmd.keep) hm (by omega) hf (by omega) wx hy0 hy
   rw [ha] at hP
   have hN := fun (w2 : World) (ho1 : VecOut w1 w2 g 0 C (qdig y xs) m) => hmd.normCall (by omega) ho1 (show val WB (qdig y xs) = a / y by rw [qdig_val y (by omega), ha])
   obtain ⟨r, hr⟩ : ∃ r, a % y = r := ⟨_, rfl⟩
   rw [hr] at hP
   have hP := Lib.hid hP
   go_wp2_with fail
   refine hP.out.mono ?_
   rintro e w2 ⟨rfl, ho1⟩
   have hN := Lib.hid (hN w2 ho1)
   clear ho1
   go_wp2_with fail
   refine hN.out.mono ?_
   rintro e w5 ⟨v', rfl, hw5, ho⟩
   obtain rfl := hw5.symm
   go_wp2_with fail
   go_ret2
   exact ⟨_, by rw [hr]; rfl, ho⟩
end Go.Proofs.YthocmhkafgpgbaaGreatDoor
namespace Go.Proofs.YthocmhkafgpgbaaGreatDoor
open Go.RowKit
def StkNew (w : World) (s : Nat) : Prop := w.heap[s]? = some (.cells #[.pointer none] 303 (0, 0))
structure StkHeld (w : World) (s i g L c : Nat) : Prop where
 top : w.heap[s]? = some (.cells #[.pointer (some ⟨i, 0, none⟩)] 303 (0, 0))
 inner : w.heap[i]? = some (.cells #[.slice (some ⟨g, 0, none⟩) L c] 332 (0, 0))
theorem StkNew.cell {w : World} {s : Nat} (h : StkNew w s) : w.cell? ⟨s, 0, none⟩ = some (.pointer none) := by rw [cellOf h]; rfl
set_option maxRecDepth 100000 in
theorem getStack_any (w : World) : Calls Tryz.prog 203 #[] w fun e w' => e = .returned (.pointer (some ⟨w.heap.size, 0, none⟩)) ∧ StkNew w' w.heap.size ∧ Keeps (fun _ => False) w w' := by
 go_enter Tryz.func203, Tryz.ntmps203
 go_wp2_with fail
 go_ret
 exact ⟨rfl, blk_new _ _, (Keeps.refl _ _).alloc _⟩
set_option maxRecDepth 100000 in
theorem stkFreeNew (w : World) (s : Nat) (hs : StkNew w s) (u : FrameMode) :
  CallsD Tryz.prog 204 #[.pointer (some ⟨s, 0, none⟩)] u w fun e u' w' => u' = u ∧ (e = .returned (.tuple #[]) ∧ w' = w) := by
 have hc := hs.cell
 go_enter_d Tryz.func204, Tryz.ntmps204
 go_wp2_with fail
 go_end0
 exact ⟨rfl, rfl⟩
theorem StkHeld.zero {w : World} {s i g L c : Nat} (h : StkHeld w s i g L c) : StkHeld (w.setCell ⟨i, 0, none⟩ (.slice (some ⟨g, 0, none⟩) 0 c)) s i g 0 c := by
 have hsi : s ≠ i := fun e => by
  subst e
  have := h.top.symm.trans h.inner
  simp at this
 refine ⟨by rw [blk_setCell_ne hsi]; exact h.top, ?_⟩
 rw [blk_setCell h.inner 0]
 simp
end Go.Proofs.YthocmhkafgpgbaaGreatDoor
namespace Go.Proofs.YthocmhkafgpgbaaGreatDoor
open Go.RowKit
theorem norm_any (w : World) (base : Nat) (v : Value) (n : Nat) (h : NatAt w base v n) :
  Calls Tryz.prog 248 #[v] w fun e w' => ∃ v', e = .returned v' ∧ w' = w ∧ NatAt w base v' n ∧ v'.ownBlock = v.ownBlock := by
 have hn := val_digs WB_one n
 rcases h with ⟨rfl, h0⟩ | ⟨g, C, rfl, hb, hC, hw, ht, h0, hl⟩
 ·refine (norm_nil w).mono ?_
  rintro e w' ⟨rfl, rfl⟩
  rw [h0, val_nil] at hn
  subst hn
  exact ⟨_, rfl, rfl, .inl ⟨rfl, h0⟩, rfl⟩
 ·have hle : (digs WB n).length ≤ C.length := by rw [← ht]; simp; omega
  refine (norm_row w base g _ C hb hC hw hle h0 hl).mono ?_
  rintro e w' ⟨m, rfl, rfl, _, hm⟩
  rw [ht, hn] at hm
  exact ⟨_, rfl, rfl, hm, rfl⟩
structure NatNew (w w' : World) (v : Value) (n : Nat) : Prop where
 at_ : NatAt w' w.heap.size v n
 keep : Keeps (fun _ => False) w w'
theorem NatOut.new {w w' : World} {v : Value} {n : Nat} (h : NatOut w w' w.heap.size (.slice none 0 0) v (digs WB n)) : NatNew w w' v n :=
 ⟨h.row, h.keep.mono (fun k _ hk => by simp [Value.ownBlock] at hk)⟩
theorem NatOut.undrewN {w w' : World} {base q : Nat} {zv v' : Value} {xs : List Nat} (h : NatOut (w.drewN q) w' base zv v' xs) : NatOut w w' base zv v' xs :=
 ⟨h.row, ⟨h.keep.os, h.keep.tape, h.keep.output, h.keep.size, h.keep.blk⟩, h.own⟩
theorem NatRow.notNew {w : World} {b s : Nat} {v : Value} {xs : List Nat} (h : NatRow w b v xs) (hs : StkNew w s) : v.ownBlock ≠ some s := by
 intro e
 rcases h with ⟨rfl, _⟩ | ⟨g, C, rfl, _, hC, _⟩
 ·simp [Value.ownBlock] at e
 ·simp only [Value.ownBlock, Option.some.injEq] at e
  subst e
  unfold Blk at hC
  unfold StkNew at hs
  rw [hC] at hs
  simp at hs
theorem sameBlk_self {p : Addr} {n c m d : Nat} : sameBlk (.slice (some p) n c) (.slice (some p) m d) = true := by simp [sameBlk, Value.ownBlock]
set_option maxRecDepth 100000 in
set_option maxHeartbeats 2000000 in
theorem expNN_any (w : World) (bx by_ : Nat) (xv yv : Value) (a e : Nat) (hx : NatAt w bx xv a) (hy : NatAt w by_ yv e) (hap : sameBlk yv xv = false) (hnil : e = 0 → yv = .slice none 0 0) (ha1 : 1 < a) (ha : a < WB) (he : e < 1000) (hl : (digs WB (a ^ e)).length ≤ 9) (hg : Thr w) (hGL : GL ≤ w.heap.size) :
  Calls Tryz.prog 322 #[yv, .pointer none, xv, yv, .slice none 0 0, .bool false] w fun e' w' => ∃ v', e' = .returned v' ∧ NatNew w w' v' (a ^ e) := by
 have hxd : digs WB a = [a] := digs_small WB_one (by omega) ha
 have hxr : NatRow w bx xv [a] := by rw [← hxd]; exact hx
 obtain ⟨gx, Cx, rfl, hbx, hCx, hwx, htx, h0x, hlx, hxC⟩ := hxr.mk' (by simp)
 have hvx := hCx.row (xs := [a]) htx (by simpa using hxC)
 have cx := hvx 0 (by simp)
 rw [Nat.zero_add] at cx
 simp only [List.length_cons, List.length_nil, Nat.zero_add, List.getElem_cons_zero] at cx hxC hap hx hxr ⊢
 have hax1 : ((a : Int) == 1) = false := by simp; omega
 by_cases he0 : e = 0
 ·subst he0
  obtain rfl := hnil rfl
  have hA := alias_any w w.heap.size bx _ _ [] _ (.nil _ _) hxr
  have hA2 := fun q => alias_any (w.drewN q) w.heap.size w.heap.size (.slice none 0 0) (.slice none 0 0) [] [] (.nil _ _) (.nil _ _)
  rw [sameBlk_nil] at hA hA2
  have hA := Lib.hid hA
  have hA2 := Lib.hid hA2
  go_enter_defers Tryz.func322, Tryz.ntmps322
  go_wp2_with fail
  refine hA.out.mono ?_
  rintro e' w1 ⟨rfl, q, rfl⟩
  go_wp2_with fail
  refine (hA2.out q).mono ?_
  rintro e' w1 ⟨rfl, q2, rfl⟩
  have hS := Lib.hid (setWord_any (w.drewN (q + q2)) w.heap.size _ [] 1 (.nil _ _) WB_one (Nat.le_refl _))
  go_wp2_with fail
  refine hS.out.mono ?_
  rintro e' w1 ⟨v', rfl, ho⟩
  go_wp2_with fail
  refine ⟨_, results_tmp rfl _ _ _, v', rfl, ?_⟩
  rw [Nat.pow_zero]
  exact (ho.undrewN).new
 ·have hyd : digs WB e = [e] := digs_small WB_one he0 (by rw [WB_eq]; omega)
  have hyr : NatRow w by_ yv [e] := by rw [← hyd]; exact hy
  obtain ⟨gy, Cy, rfl, hby, hCy, hwy, hty, h0y, hly, hyC⟩ := hyr.mk' (by simp)
  have hvy := hCy.row (xs := [e]) hty (by simpa using hyC)
  have cy := hvy 0 (by simp)
  rw [Nat.zero_add] at cy
  simp only [List.length_cons, List.length_nil, Nat.zero_add, List.getElem_cons_zero] at cy hyC hap hy hyr ⊢
  have hA := alias_any w by_ bx _ _ _ _ hyr hxr
  have hA2 := fun q => alias_any (w.drewN q) by_ by_ _ _ _ _ hyr hyr
  rw [hap] at hA
  simp only [sameBlk_self] at hA2
  have hA := Lib.hid hA
  have hA2 := Lib.hid hA2
  by_cases he1 : e = 1
  ·subst he1
   have hS := fun q => Lib.hid (set_any (w.drewN q) w.heap.size bx (.slice none 0 0) _ [] _ (.nil _ _) hxr (Nat.le_refl _) (by simp))
   go_enter_defers Tryz.func322, Tryz.ntmps322
   go_wp2_with fail
   refine hA.out.mono ?_
   rintro e' w1 ⟨rfl, q, rfl⟩
   go_wp2_with fail
   refine (hA2.out q).mono ?_
   rintro e' w1 ⟨rfl, q2, rfl⟩
   go_wp2_with fail
   refine (hS _).out.mono ?_
   rintro e' w1 ⟨v', rfl, ho⟩
   go_wp2_with fail
   refine ⟨_, results_tmp rfl _ _ _, v', rfl, ?_⟩
   rw [Nat.pow_one]
   rw [← hxd] at ho
   exact (ho.undrewN).new
  ·have he2 : ((e : Int) == 1) = false := by simp; omega
   have hewb : e < WB := by rw [WB_eq]; omega
   obtain ⟨est, ehi, ehl⟩ := expV_start he0 hewb
   obtain ⟨sh, hsh⟩ : ∃ s, nlzN e + 1 = s := ⟨_, rfl⟩
   obtain ⟨s0, hs0⟩ : ∃ s, 63 - nlzN e = s := ⟨_, rfl⟩
   have hsl := shlI' sh e
   rw [hsh, hs0] at est
   rw [hs0] at ehi
   have hnz := Lib.hid (nlz_any e hewb)
   have e1 : IntKind.u64.wrap ((nlzN e : Int) + 1) = (sh : Int) := by rw [IntKind.wrap_u64]; omega
   have e2 : (64 : Int) - (sh : Int) = (s0 : Int) := by omega
   have e3 : IntKind.i64.wrap (sh : Int) = (sh : Int) := by rw [IntKind.wrap_i64]; omega
   rw [est] at hsl
   have hs63 : s0 ≤ 63 := by omega
   clear hsh hs0 ehl est
   generalize nlzN e = nz at *
   go_enter_defers Tryz.func322, Tryz.ntmps322
   go_wp2_with fail
   refine hA.out.mono ?_
   rintro e' w1 ⟨rfl, q, rfl⟩
   go_wp2_with fail
   refine (hA2.out q).mono ?_
   rintro e' w1 ⟨rfl, q2, rfl⟩
   go_wp2_with fail
   refine (getStack_any _).mono ?_
   rintro e' w1 ⟨rfl, hst, hk1⟩
   change StkNew w1 w.heap.size at hst
   have hk1 : Keeps (fun _ => False) w w1 := ⟨hk1.os, hk1.tape, hk1.output, hk1.size, hk1.blk⟩
   have hx1 := hxr.kept hk1 (fun _ _ h => h)
   have cy1 := hk1.cellS (a := ⟨gy, 0, none⟩) cy (fun h => h)
   have hS := Lib.hid (set_any w1 w.heap.size bx (.slice none 0 0) _ [] _ (.nil _ _) hx1 hk1.size (by simp))
   go_wp2_with fail
   refine hS.out.mono ?_
   rintro e' w2 ⟨z0, rfl, ho0⟩
   have hk2 : Keeps (fun _ => False) w w2 := hk1.trans (ho0.keep.mono (T' := fun _ => False) (fun k _ hk => by simp [Value.ownBlock] at hk)) (fun _ _ h => h)
   have cy2 := hk2.cellS (a := ⟨gy, 0, none⟩) cy (fun h => h)
   have hg2 := hg.kept hk2 (fun _ _ h => h)
   have hr0 := ho0.row
   rw [← hxd, show a = a ^ (e / 2 ^ s0) by rw [ehi, Nat.pow_one]] at hr0
   have hst2 : StkNew w2 w.heap.size := ho0.keep.at_ hst (by simp [Value.ownBlock])
   clear ho0 hk1 cy1 hst hx1
   go_wp2_with fail
   refine (hnz.out _).mono ?_
   rintro e' w3 ⟨rfl, hw3⟩
   obtain rfl := hw3.symm
   go_wp2_with fail
   go_loopw [0, 15, 19, 21] (fun z v zz j wr => ∃ (s i : Nat) (zs : List Nat), i + s = s0 ∧ j = .int .i64 i ∧ v = .int .u64 (expV e s : Nat) ∧ NatAt wr w.heap.size z (a ^ (e / 2 ^ s)) ∧ NatRow wr w.heap.size zz zs ∧ (∀ k, z.ownBlock = some k → zz.ownBlock ≠ some k) ∧ StkNew wr w.heap.size ∧ Keeps (fun _ => False) w wr) (fun _ _ _ j _ => s0 - (intOf j).toNat)
   case atStart => exact ⟨s0, 0, [], by omega, rfl, rfl, hr0, .nil _ _, fun k _ h => by simp [Value.ownBlock] at h, hst2, hk2⟩
   case round =>
    obtain ⟨s, i, zs, his, rfl, rfl, hz, hzz, hapz, hst, hk⟩ := hrel
    by_cases hi : i < s0
    ·obtain ⟨t, rfl⟩ : ∃ t, s = t + 1 := ⟨s - 1, by omega⟩
     have ht : t ≤ 63 := by omega
     have t0 : (i : Int) < s0 := by omega
     obtain ⟨z, hzu⟩ : ∃ z, z = u0 := ⟨_, rfl⟩
     obtain ⟨zz, hzzu⟩ : ∃ z, z = u19 := ⟨_, rfl⟩
     subst hzu hzzu
     have hgr := hg.kept hk (fun _ _ h => h)
     obtain ⟨p, hp⟩ : ∃ p, a ^ (e / 2 ^ (t + 1)) = p := ⟨_, rfl⟩
     have hst1 := exp_half a e t
     have hple := pow_le_bits a (by omega) e t
     rw [hp] at hst1 hz
     have hbb : e / 2 ^ t % 2 = 0 ∨ e / 2 ^ t % 2 = 1 := by omega
     have hpp : p * p ≤ a ^ e := by
      refine Nat.le_trans ?_ hple
      rw [hst1]
      exact Nat.le_mul_of_pos_right _ (Nat.pow_pos (by omega))
     have hlp := Nat.le_trans (digs_length_mono WB_one (Nat.le_trans (Nat.le_mul_self p) hpp)) hl
     have hlpp := Nat.le_trans (digs_length_mono WB_one hpp) hl
     have hSq := Lib.hid (sqr_any wr w.heap.size w.heap.size zz z (.pointer (some ⟨w.heap.size, 0, none⟩)) zs p hzz hz hk.size hgr hGL (by omega))
     have hand := expV_and e ht
     have hshl := expV_shl e ht
     have hV1 := expV_lt e (show t + 1 ≤ 64 by omega)
     generalize hev : expV e (t + 1) = v1 at *
     generalize hev0 : expV e t = v0 at *
     rcases hbb with hb | hb
     ·rw [hb] at hand hst1
      rw [Nat.zero_mul] at hand
      rw [Nat.pow_zero, Nat.mul_one] at hst1
      go_wp2_with fail
      refine hSq.out.mono ?_
      rintro e' w3 ⟨v2, rfl, ho⟩
      have hk3 : Keeps (fun _ => False) w w3 := hk.trans ho.keep (fun k hkk hT => by have := (hzz.lt k hT).1; omega)
      have hz3 : NatRow w3 w.heap.size z (digs WB p) := NatRow.kept hz ho.keep hapz
      have hap3 : ∀ k, v2.ownBlock = some k → z.ownBlock ≠ some k := fun k h2 hz' => by
       rcases ho.own k h2 with h3 | h3
       ·exact hapz k hz' h3
       ·have := (NatRow.lt hz k hz').2; omega
      have hst3 : StkNew w3 w.heap.size := ho.keep.at_ hst (hzz.notNew hst)
      have hr3 := ho.row
      rw [← hst1] at hr3
      go_wp2_with fail
      go_roundw
      case rel => exact ⟨t, i + 1, _, by omega, by go_num, by first | rfl | rw [hev0], hr3, hz3, hap3, hst3, hk3⟩
      case measure => simp [intOf]; omega
     ·rw [hb] at hand hst1
      rw [Nat.one_mul] at hand
      rw [Nat.pow_one] at hst1
      have hx3 := fun (w3 : World) (h : Keeps (fun _ => False) w w3) => NatRow.kept hxr h (fun _ _ h => h)
      go_wp2_with fail
      refine hSq.out.mono ?_
      rintro e' w3 ⟨v2, rfl, ho⟩
      have hk3 : Keeps (fun _ => False) w w3 := hk.trans ho.keep (fun k hkk hT => by have := (hzz.lt k hT).1; omega)
      have hz3 : NatRow w3 w.heap.size z (digs WB p) := NatRow.kept hz ho.keep hapz
      have hap3 : ∀ k, v2.ownBlock = some k → z.ownBlock ≠ some k := fun k h2 hz' => by
       rcases ho.own k h2 with h3 | h3
       ·exact hapz k hz' h3
       ·have := (NatRow.lt hz k hz').2; omega
      have hst3 : StkNew w3 w.heap.size := ho.keep.at_ hst (hzz.notNew hst)
      have hg3 := hg.kept hk3 (fun _ _ h => h)
      have hm := mul_any w3 w.heap.size w.heap.size bx z v2 _ (.pointer (some ⟨w.heap.size, 0, none⟩)) _ (p * p) a hz3 ho.row (by unfold NatAt; rw [hxd]; exact hx3 w3 hk3) hk3.size hg3 hGL (by omega) (by rw [hxd]; simp)
      rw [← hst1] at hm
      have hm := Lib.hid hm
      have hv2 := ho.row
      go_wp2_with fail
      refine hm.out.mono ?_
      rintro e' w4 ⟨v3, rfl, ho4⟩
      have hk4 : Keeps (fun _ => False) w w4 := hk3.trans ho4.keep (fun k hkk hT => by have := (hz3.lt k hT).1; omega)
      have hv4 : NatRow w4 w.heap.size v2 (digs WB (p * p)) := hv2.kept ho4.keep hap3
      have hap4 : ∀ k, v3.ownBlock = some k → v2.ownBlock ≠ some k := fun k h2 hz' => by
       rcases ho4.own k h2 with h3 | h3
       ·exact hap3 k hz' h3
       ·have := (hv2.lt k hz').2; omega
      have hst4 : StkNew w4 w.heap.size := ho4.keep.at_ hst3 (hz3.notNew hst3)
      have hr4 := ho4.row
      go_wp2_with fail
      go_roundw
      case rel => exact ⟨t, i + 1, _, by omega, by go_num, by first | rfl | rw [hev0], hr4, hv4, hap4, hst4, hk4⟩
      case measure => simp [intOf]; omega
    ·obtain rfl : s = 0 := by omega
     have t0 : ¬ (i : Int) < s0 := by omega
     rw [Nat.pow_zero, Nat.div_one] at hz
     have hN := Lib.hid (norm_any wr w.heap.size _ _ hz)
     go_wp2_with fail
     obtain ⟨z, hzu⟩ : ∃ z, z = u0 := ⟨_, rfl⟩
     subst hzu
     go_loopw [0, 22] (fun z1 i wx => z1 = z ∧ i = .int .i64 (-1) ∧ wx = wr) (fun _ _ _ => 0)
     case atStart => exact ⟨rfl, rfl, rfl⟩
     case round =>
      obtain ⟨rfl, rfl, rfl⟩ := hrel
      go_wp2_with fail
      refine hN.out.mono ?_
      rintro e' w5 ⟨v', rfl, hw5, hat, -⟩
      obtain rfl := hw5.symm
      go_wp2_with fail
      refine leaves_cons (by simp) rfl ?_
      refine (stkFreeNew _ _ hst _).mono ?_
      rintro e' u w7 ⟨rfl, rfl, rfl⟩
      exact ⟨_, results_tmp rfl _ _ _, v', rfl, hat, hk⟩
end Go.Proofs.YthocmhkafgpgbaaGreatDoor
