/- Lehmer's simulation: the highest words of two numbers give four words. -/
import Derived.Test.YtgamldefngehlaaGreatDoorM10
import Derived.Test.YtgamldefngehlaaGreatDoorM13
set_option linter.unusedVariables false
set_option linter.unusedSimpArgs false
namespace Go.Proofs.YtgamldefngehlaaGreatDoor
open Go.RowKit
def LehAns (w w' : World) (a b : Nat) (e : Ending) : Prop := ∃ (u0 u1 v0 v1 : Nat) (ev : Bool) (n : Nat), e = .returned (.tuple #[.int .u64 u0, .int .u64 u1, .int .u64 v0, .int .u64 v1, .bool ev]) ∧ (u0 < WB ∧ u1 < WB ∧ v0 < WB ∧ v1 < WB) ∧ LehOut a b u0 u1 v0 v1 ev ∧ w' = w.drewN n
set_option maxRecDepth 100000 in
set_option maxHeartbeats 1000000 in
theorem lehSim_any (w : World) (base gA gB a b : Nat) (av bv : Value) (hA : IntAt w base gA 0 false av a) (hB : IntAt w base gB 0 false bv b) (hba : b ≤ a) (hb : WB ≤ b) (hl : (digs WB a).length ≤ 900) :
  Calls Tryz.prog 254 #[.pointer (some ⟨gA, 0, none⟩), .pointer (some ⟨gB, 0, none⟩)] w fun e w' => LehAns w w' a b e := by
 obtain ⟨xs, hxs⟩ : ∃ xs, digs WB a = xs := ⟨_, rfl⟩
 obtain ⟨ys, hys⟩ : ∃ ys, digs WB b = ys := ⟨_, rfl⟩
 have ha := val_digs WB_one a
 have hb' := val_digs WB_one b
 have wx := words_digs WB_one a
 have wy := words_digs WB_one b
 have hlast := digs_last WB_one a (fun e => by rw [e, val_nil] at ha; rw [WB_eq] at hb; omega)
 have hn2 : 1 < ys.length := by
  rcases Nat.lt_or_ge 1 ys.length with h | h
  ·exact h
  ·rw [← hys] at h
   have := (digs_length_le WB_one).1 h
   rw [Nat.pow_one] at this
   omega
 have hyx : ys.length ≤ xs.length := by rw [← hys, ← hxs]; exact digs_length_mono WB_one hba
 have cA := hA.abs
 have cB := hB.abs
 have hx := hA.nat
 have hy := hB.nat
 unfold NatAt at hx hy
 simp only [hxs, hys] at hx hy hl ha hb' wx wy hlast
 obtain ⟨gx, Cx, rfl, hbx, hCx, hwx, htx, h0x, hlx, hxC⟩ := hx.mk' (by omega)
 obtain ⟨gy, Cy, rfl, hby, hCy, hwy, hty, h0y, hly, hyC⟩ := hy.mk' (by omega)
 have hvx := hCx.row (xs := xs) htx (by omega)
 have hvy := hCy.row (xs := ys) hty (by omega)
 obtain ⟨p, hp⟩ : ∃ p, xs.length = p + 2 := ⟨xs.length - 2, by omega⟩
 obtain ⟨p1, hp1⟩ : ∃ p1, p + 1 = p1 := ⟨_, rfl⟩
 have cx1 := hvx p1 (by omega)
 have cx0 := hvx p (by omega)
 rw [Nat.zero_add] at cx1 cx0
 have hnz : xs[p1]'(by omega) ≠ 0 := by
  rw [List.getLast_eq_getElem] at hlast
  have : xs.length - 1 = p1 := by omega
  simpa [this] using hlast
 obtain ⟨X1, hX1⟩ : ∃ X, xs[p1]'(by omega) = X := ⟨_, rfl⟩
 obtain ⟨X0, hX0⟩ : ∃ X, xs[p]'(by omega) = X := ⟨_, rfl⟩
 have w1 := wx.get p1 (by omega)
 have w0 := wx.get p (by omega)
 rw [hX1] at cx1 hnz w1
 rw [hX0] at cx0 w0
 have hsh := nlz_le hnz w1
 have hnm := (nlz_norm hnz w1).1
 have hP := nlz_any X1 w1 w
 obtain ⟨sh, hshe⟩ : ∃ sh, nlzN X1 = sh := ⟨_, rfl⟩
 rw [hshe] at hsh hnm hP
 have hP := Lib.hid hP
 obtain ⟨T, hT⟩ : ∃ T, 64 - sh = T := ⟨_, rfl⟩
 obtain ⟨K, hK⟩ : ∃ K, topK p sh = K := ⟨_, rfl⟩
 have hKp : 0 < K := hK ▸ topK_pos p sh
 have hX1' : xs[p + 1]'(by omega) = X1 := by simp only [hp1]; exact hX1
 have hdA := top_two (s := sh) hp wx (by omega)
 rw [ha, hX1', hX0, hK] at hdA
 have hbd := top_bound (s := sh) hp wx (by omega) (by rw [hX1']; exact hnm)
 rw [ha, hK] at hbd
 have ho := top_or (s := sh) (x := X1) (y := X0) (by omega) hnm w0
 rw [← hdA] at ho
 rw [hT] at ho
 obtain ⟨tA, htA⟩ : ∃ t, a / K = t := ⟨_, rfl⟩
 obtain ⟨tB, htB⟩ : ∃ t, b / K = t := ⟨_, rfl⟩
 rw [htA] at ho hbd
 have hL0 := Leh.start (K := K) hba
 rw [htA, htB] at hL0
 have f1 := shlI' sh X1
 have f2 := shrI (t := T) (by omega) X0
 have f3 := orI (c := tA) (shlN_lt X1 sh) (shrN_lt w0 T) ho
 have f4 : IntKind.u64.wrap (64 - (sh : Int)) = (T : Int) := by rw [IntKind.wrap_u64]; omega
 obtain ⟨N, hN⟩ : ∃ N, xs.length = N := ⟨_, rfl⟩
 obtain ⟨M, hM⟩ : ∃ M, ys.length = M := ⟨_, rfl⟩
 have e1 : (N : Int) - 1 = p1 := by omega
 have e2 : (N : Int) - 2 = p := by omega
 have b1 : (p1 : Int) < N := by omega
 have b2 : (p : Int) < N := by omega
 rw [hN] at cA
 rw [hM] at cB
 rw [Nat.zero_add] at cA cB
 have hLs := Lib.hid (show Leh a b K 0 1 0 0 0 1 tA tB false from hL0)
 have hKK := Lib.hid (And.intro hKp (show a / K < WB by rw [htA]; exact hbd))
 have hfB : tB < WB := by
  have := Nat.div_le_div_right (c := K) hba
  rw [htA, htB] at this
  omega
 have hp0 := hp
 generalize hsl : shlN X1 sh = sl at *
 generalize hsr : shrN X0 T = sr at *
 rw [hN] at hp hyx
 rw [hM] at hn2 hyx
 rcases (show M = p + 2 ∨ M = p + 1 ∨ M ≤ p by omega) with hm | hm | hm
 ·have hys2 : ys.length = p + 2 := by omega
  have cy1 := hvy p1 (by omega)
  have cy0 := hvy p (by omega)
  rw [Nat.zero_add] at cy1 cy0
  obtain ⟨Y1, hY1⟩ : ∃ X, ys[p1]'(by omega) = X := ⟨_, rfl⟩
  obtain ⟨Y0, hY0⟩ : ∃ X, ys[p]'(by omega) = X := ⟨_, rfl⟩
  have v1 := wy.get p1 (by omega)
  have v0 := wy.get p (by omega)
  have hY1' : ys[p + 1]'(by omega) = Y1 := by simp only [hp1]; exact hY1
  have hle := top_le (n := p + 1) hp0 hys2 wx (by rw [ha, hb']; exact hba)
  rw [hX1', hY1'] at hle
  rw [hY1] at cy1 v1
  rw [hY0] at cy0 v0
  have hnm2 : Y1 * 2 ^ sh < WB := Nat.lt_of_le_of_lt (Nat.mul_le_mul_right _ hle) hnm
  have hdB := top_two (s := sh) hys2 wy (by omega)
  rw [hb', hY1', hY0, hK] at hdB
  have ho2 := top_or (s := sh) (x := Y1) (y := Y0) (by omega) hnm2 v0
  rw [← hdB, htB, hT] at ho2
  have g1 := shlI' sh Y1
  have g2 := shrI (t := T) (by omega) Y0
  have g3 := orI (c := tB) (shlN_lt Y1 sh) (shrN_lt v0 T) ho2
  have tst : ((N : Int) == M) = true := by simp; omega
  generalize shlN Y1 sh = yl at *
  generalize shrN Y0 T = yr at *
  obtain rfl : M = N := by omega
  clear hdA hdB ho ho2 hY1 hY0 hY1' hle hnm2 hnm v1 v0 hvy hys2
  clear hm hp0 hN hM hp hn2 hyx hp1 hX1 hX0 hX1' hsl hsr hT hK htA htB hshe hba hb hl ha hb' hnz w1 w0 hlast hx hy hA hB hvx wx wy htx hty hxs hys hbd hKp
  go_enter Tryz.func254, Tryz.ntmps254
  go_wp2_with fail
  refine hP.out.mono ?_
  rintro e wz ⟨rfl, hwz⟩
  obtain rfl := hwz.symm
  go_wp2_with fail
  go_region
  go_wp2_with fail
  go_region
  go_wp2_with fail
  go_loopw [4, 5, 6, 7, 8, 9, 10, 11, 12] (fun U0 U1 V0 V1 E A1 A2 U2 V2 wr => ∃ (u0 u1 v0 v1 a1 a2 u2 v2 : Nat) (ev : Bool) (q : Nat), U0 = .int .u64 u0 ∧ U1 = .int .u64 u1 ∧ V0 = .int .u64 v0 ∧ V1 = .int .u64 v1 ∧ E = .bool ev ∧ A1 = .int .u64 a1 ∧ A2 = .int .u64 a2 ∧ U2 = .int .u64 u2 ∧ V2 = .int .u64 v2 ∧ Leh a b K u0 u1 u2 v0 v1 v2 a1 a2 ev ∧ wr = w.drewN q) (fun _ _ _ _ _ _ A2 _ _ _ => (intOf A2).toNat)
  case atStart => exact ⟨0, 1, 0, 0, _, _, 0, 1, false, 2, rfl, rfl, rfl, rfl, rfl, rfl, rfl, rfl, rfl, hLs.out, rfl⟩
  case round =>
   obtain ⟨u0, u1, v0, v1, a1, a2, u2, v2, ev, q, rfl, rfl, rfl, rfl, rfl, rfl, rfl, rfl, rfl, hL, hwr⟩ := hrel
   have hLH := Lib.hid hL
   have hwr' := Lib.hid hwr
   obtain ⟨b0, b1, b2, b3, b4, b5⟩ := hL.bd
   clear hL hwr
   have hsum := hLH.out.sum
   have hle21 := hLH.out.le
   have hone := hLH.out.one
   have ha1W : a1 < WB := by
    have h1 := Nat.le_mul_of_pos_left a1 (show 0 < v2 by omega)
    have := hKK.out.2
    omega
   by_cases c1 : v2 ≤ a2
   ·have t1 : (v2 : Int) ≤ a2 := by omega
    obtain ⟨d, hd⟩ : ∃ d, a1 - a2 = d := ⟨_, rfl⟩
    obtain ⟨sv, hsv⟩ : ∃ d, v1 + v2 = d := ⟨_, rfl⟩
    have hsW : sv < WB := by
     have h1 := Nat.le_mul_of_pos_right v2 (show 0 < a1 by omega)
     have h2 := Nat.le_mul_of_pos_right v1 (show 0 < a2 by omega)
     have := hKK.out.2
     omega
    have e1 : (a1 : Int) - a2 = d := by omega
    have e2 : (v1 : Int) + v2 = sv := by omega
    have x1 := wrapW (show d < WB by omega)
    have x2 := wrapW hsW
    by_cases c2 : v1 + v2 + a2 ≤ a1
    ·have t2 : (sv : Int) ≤ d := by omega
     have hst := hLH.out.step hKK.out.1 hKK.out.2 c1 c2
     obtain ⟨g0, g1', g2', g3', g4', g5'⟩ := hst.bd
     have ha2 : 0 < a2 := by omega
     have hrl := Nat.mod_lt a1 ha2
     have p1 : Int.tdiv (a1 : Int) (a2 : Int) = ((a1 / a2 : Nat) : Int) := rfl
     have p2 : Int.tmod (a1 : Int) (a2 : Int) = ((a1 % a2 : Nat) : Int) := rfl
     obtain ⟨Q, hQ⟩ : ∃ x, a1 / a2 = x := ⟨_, rfl⟩
     obtain ⟨R, hR⟩ : ∃ x, a1 % a2 = x := ⟨_, rfl⟩
     rw [hQ] at hst p1 g2' g5'
     rw [hR] at hst p2 hrl
     obtain ⟨M2, hM2⟩ : ∃ x, Q * u2 = x := ⟨_, rfl⟩
     obtain ⟨M3, hM3⟩ : ∃ x, Q * v2 = x := ⟨_, rfl⟩
     rw [hM2] at hst g2'
     rw [hM3] at hst g5'
     have y1 : (Q : Int) * u2 = M2 := by rw [← hM2]; simp
     have y2 : (Q : Int) * v2 = M3 := by rw [← hM3]; simp
     obtain ⟨S2, hS2⟩ : ∃ x, u1 + M2 = x := ⟨_, rfl⟩
     obtain ⟨S3, hS3⟩ : ∃ x, v1 + M3 = x := ⟨_, rfl⟩
     rw [hS2] at hst g2'
     rw [hS3] at hst g5'
     have y3 : (u1 : Int) + M2 = S2 := by omega
     have y4 : (v1 : Int) + M3 = S3 := by omega
     have x3 := wrapW (show M2 < WB by omega)
     have x4 := wrapW (show M3 < WB by omega)
     have xQ := wrapW (show Q < WB by rw [← hQ]; exact Nat.lt_of_le_of_lt (Nat.div_le_self _ _) ha1W)
     have x5 := wrapW g2'
     have x6 := wrapW g5'
     have tz : ((a2 : Int) == 0) = false := by simp; omega
     have tz' : ¬ (a2 : Int) = 0 := by omega
     have hst := Lib.hid hst
     have hrl := Lib.hid hrl
     clear hQ hR hM2 hM3 hS2 hS3 hd hsv hsum hle21 hone ha1W c1 c2 g0 g1' g2' g3' g4' g5' b0 b1 b2 b3 b4 b5 hsW ha2
     go_wp2_with fail
     go_region
     all_goals go_wp2_with fail
     all_goals go_roundw
     case rel => exact ⟨u1, u2, v1, v2, a2, R, S2, S3, !ev, q + 1, rfl, rfl, rfl, rfl, rfl, rfl, rfl, by first | rfl | rw [xQ, y1, x3, y3, x5], by first | rfl | rw [xQ, y2, x4, y4, x6], hst.out, by rw [hwr'.out]; rfl⟩
     case measure => have := hrl.out; simp [intOf]; omega
    ·have t2 : ¬ (sv : Int) ≤ d := by omega
     clear hd hsv hsum hle21 hone ha1W c1 c2 b0 b1 b2 b3 b4 b5 hsW
     go_wp2_with fail
     refine bodyPost_ret (v := .tuple #[.int .u64 u0, .int .u64 u1, .int .u64 v0, .int .u64 v1, .bool ev]) (by simp [results, Tryz.results254, go_sem]) rfl ?_
     exact ⟨u0, u1, v0, v1, ev, q, rfl, by obtain ⟨b0, b1, b2, b3, b4, b5⟩ := hLH.out.bd; exact ⟨b0, b1, b3, b4⟩, hLH.out.out, hwr'.out⟩
   ·have t1 : ¬ (v2 : Int) ≤ a2 := by omega
    clear hsum hle21 hone ha1W c1 b0 b1 b2 b3 b4 b5
    go_wp2_with fail
    refine bodyPost_ret (v := .tuple #[.int .u64 u0, .int .u64 u1, .int .u64 v0, .int .u64 v1, .bool ev]) (by simp [results, Tryz.results254, go_sem]) rfl ?_
    exact ⟨u0, u1, v0, v1, ev, q, rfl, by obtain ⟨b0, b1, b2, b3, b4, b5⟩ := hLH.out.bd; exact ⟨b0, b1, b3, b4⟩, hLH.out.out, hwr'.out⟩
 ·have hys1 : ys.length = p + 1 := by omega
  have cy0 := hvy p (by omega)
  rw [Nat.zero_add] at cy0
  obtain ⟨Y0, hY0⟩ : ∃ X, ys[p]'(by omega) = X := ⟨_, rfl⟩
  have hdB := top_one (s := sh) hys1 wy (by omega)
  rw [hb', hY0, hK, htB, hT] at hdB
  rw [hY0] at cy0
  have g2 := shrI (t := T) (by omega) Y0
  have g3 : shrN Y0 T = tB := hdB.symm
  rw [g3] at g2
  have tst : ((N : Int) == M) = false := by simp; omega
  have tst2 : ((N : Int) == M + 1) = true := by simp; omega
  obtain rfl : p1 = M := by omega
  have e5 : (p1 : Int) + 1 = N := by omega
  have b5 : (p : Int) < p1 := by omega
  clear hdA hdB ho g3 hY0 hnm hvy hys1
  clear hm hp0 hN hM hp hn2 hyx hp1 hX1 hX0 hX1' hsl hsr hT hK htA htB hshe hba hb hl ha hb' hnz w1 w0 hlast hx hy hA hB hvx wx wy htx hty hxs hys hbd hKp
  go_enter Tryz.func254, Tryz.ntmps254
  go_wp2_with fail
  refine hP.out.mono ?_
  rintro e wz ⟨rfl, hwz⟩
  obtain rfl := hwz.symm
  go_wp2_with fail
  go_region
  go_wp2_with fail
  go_loopw [4, 5, 6, 7, 8, 9, 10, 11, 12] (fun U0 U1 V0 V1 E A1 A2 U2 V2 wr => ∃ (u0 u1 v0 v1 a1 a2 u2 v2 : Nat) (ev : Bool) (q : Nat), U0 = .int .u64 u0 ∧ U1 = .int .u64 u1 ∧ V0 = .int .u64 v0 ∧ V1 = .int .u64 v1 ∧ E = .bool ev ∧ A1 = .int .u64 a1 ∧ A2 = .int .u64 a2 ∧ U2 = .int .u64 u2 ∧ V2 = .int .u64 v2 ∧ Leh a b K u0 u1 u2 v0 v1 v2 a1 a2 ev ∧ wr = w.drewN q) (fun _ _ _ _ _ _ A2 _ _ _ => (intOf A2).toNat)
  case atStart => exact ⟨0, 1, 0, 0, _, _, 0, 1, false, 1, rfl, rfl, rfl, rfl, rfl, rfl, rfl, rfl, rfl, hLs.out, rfl⟩
  case round =>
   obtain ⟨u0, u1, v0, v1, a1, a2, u2, v2, ev, q, rfl, rfl, rfl, rfl, rfl, rfl, rfl, rfl, rfl, hL, hwr⟩ := hrel
   have hLH := Lib.hid hL
   have hwr' := Lib.hid hwr
   obtain ⟨b0, b1, b2, b3, b4, b5⟩ := hL.bd
   clear hL hwr
   have hsum := hLH.out.sum
   have hle21 := hLH.out.le
   have hone := hLH.out.one
   have ha1W : a1 < WB := by
    have h1 := Nat.le_mul_of_pos_left a1 (show 0 < v2 by omega)
    have := hKK.out.2
    omega
   by_cases c1 : v2 ≤ a2
   ·have t1 : (v2 : Int) ≤ a2 := by omega
    obtain ⟨d, hd⟩ : ∃ d, a1 - a2 = d := ⟨_, rfl⟩
    obtain ⟨sv, hsv⟩ : ∃ d, v1 + v2 = d := ⟨_, rfl⟩
    have hsW : sv < WB := by
     have h1 := Nat.le_mul_of_pos_right v2 (show 0 < a1 by omega)
     have h2 := Nat.le_mul_of_pos_right v1 (show 0 < a2 by omega)
     have := hKK.out.2
     omega
    have e1 : (a1 : Int) - a2 = d := by omega
    have e2 : (v1 : Int) + v2 = sv := by omega
    have x1 := wrapW (show d < WB by omega)
    have x2 := wrapW hsW
    by_cases c2 : v1 + v2 + a2 ≤ a1
    ·have t2 : (sv : Int) ≤ d := by omega
     have hst := hLH.out.step hKK.out.1 hKK.out.2 c1 c2
     obtain ⟨g0, g1', g2', g3', g4', g5'⟩ := hst.bd
     have ha2 : 0 < a2 := by omega
     have hrl := Nat.mod_lt a1 ha2
     have p1 : Int.tdiv (a1 : Int) (a2 : Int) = ((a1 / a2 : Nat) : Int) := rfl
     have p2 : Int.tmod (a1 : Int) (a2 : Int) = ((a1 % a2 : Nat) : Int) := rfl
     obtain ⟨Q, hQ⟩ : ∃ x, a1 / a2 = x := ⟨_, rfl⟩
     obtain ⟨R, hR⟩ : ∃ x, a1 % a2 = x := ⟨_, rfl⟩
     rw [hQ] at hst p1 g2' g5'
     rw [hR] at hst p2 hrl
     obtain ⟨M2, hM2⟩ : ∃ x, Q * u2 = x := ⟨_, rfl⟩
     obtain ⟨M3, hM3⟩ : ∃ x, Q * v2 = x := ⟨_, rfl⟩
     rw [hM2] at hst g2'
     rw [hM3] at hst g5'
     have y1 : (Q : Int) * u2 = M2 := by rw [← hM2]; simp
     have y2 : (Q : Int) * v2 = M3 := by rw [← hM3]; simp
     obtain ⟨S2, hS2⟩ : ∃ x, u1 + M2 = x := ⟨_, rfl⟩
     obtain ⟨S3, hS3⟩ : ∃ x, v1 + M3 = x := ⟨_, rfl⟩
     rw [hS2] at hst g2'
     rw [hS3] at hst g5'
     have y3 : (u1 : Int) + M2 = S2 := by omega
     have y4 : (v1 : Int) + M3 = S3 := by omega
     have x3 := wrapW (show M2 < WB by omega)
     have x4 := wrapW (show M3 < WB by omega)
     have xQ := wrapW (show Q < WB by rw [← hQ]; exact Nat.lt_of_le_of_lt (Nat.div_le_self _ _) ha1W)
     have x5 := wrapW g2'
     have x6 := wrapW g5'
     have tz : ((a2 : Int) == 0) = false := by simp; omega
     have tz' : ¬ (a2 : Int) = 0 := by omega
     have hst := Lib.hid hst
     have hrl := Lib.hid hrl
     clear hQ hR hM2 hM3 hS2 hS3 hd hsv hsum hle21 hone ha1W c1 c2 g0 g1' g2' g3' g4' g5' b0 b1 b2 b3 b4 b5 hsW ha2
     go_wp2_with fail
     go_region
     all_goals go_wp2_with fail
     all_goals go_roundw
     case rel => exact ⟨u1, u2, v1, v2, a2, R, S2, S3, !ev, q + 1, rfl, rfl, rfl, rfl, rfl, rfl, rfl, by first | rfl | rw [xQ, y1, x3, y3, x5], by first | rfl | rw [xQ, y2, x4, y4, x6], hst.out, by rw [hwr'.out]; rfl⟩
     case measure => have := hrl.out; simp [intOf]; omega
    ·have t2 : ¬ (sv : Int) ≤ d := by omega
     clear hd hsv hsum hle21 hone ha1W c1 c2 b0 b1 b2 b3 b4 b5 hsW
     go_wp2_with fail
     refine bodyPost_ret (v := .tuple #[.int .u64 u0, .int .u64 u1, .int .u64 v0, .int .u64 v1, .bool ev]) (by simp [results, Tryz.results254, go_sem]) rfl ?_
     exact ⟨u0, u1, v0, v1, ev, q, rfl, by obtain ⟨b0, b1, b2, b3, b4, b5⟩ := hLH.out.bd; exact ⟨b0, b1, b3, b4⟩, hLH.out.out, hwr'.out⟩
   ·have t1 : ¬ (v2 : Int) ≤ a2 := by omega
    clear hsum hle21 hone ha1W c1 b0 b1 b2 b3 b4 b5
    go_wp2_with fail
    refine bodyPost_ret (v := .tuple #[.int .u64 u0, .int .u64 u1, .int .u64 v0, .int .u64 v1, .bool ev]) (by simp [results, Tryz.results254, go_sem]) rfl ?_
    exact ⟨u0, u1, v0, v1, ev, q, rfl, by obtain ⟨b0, b1, b2, b3, b4, b5⟩ := hLH.out.bd; exact ⟨b0, b1, b3, b4⟩, hLH.out.out, hwr'.out⟩
 ·have hdB := top_none (s := sh) (p := p) (ys := ys) (by omega) wy
  rw [hb', hK, htB] at hdB
  have tst : ((N : Int) == M) = false := by simp; omega
  obtain ⟨M1, hM1⟩ : ∃ x, M + 1 = x := ⟨_, rfl⟩
  have e5 : (M : Int) + 1 = M1 := by omega
  have tst2 : ((N : Int) == M1) = false := by simp; omega
  have hM1b : M1 ≤ 901 := by omega
  clear hM1
  subst hdB
  clear hdA ho hnm hvy
  clear hm hp0 hN hM hp hn2 hyx hp1 hX1 hX0 hX1' hsl hsr hT hK htA htB hshe hba hb hl ha hb' hnz w1 w0 hlast hx hy hA hB hvx wx wy htx hty hxs hys hbd hKp
  go_enter Tryz.func254, Tryz.ntmps254
  go_wp2_with fail
  refine hP.out.mono ?_
  rintro e wz ⟨rfl, hwz⟩
  obtain rfl := hwz.symm
  go_wp2_with fail
  go_region
  go_wp2_with fail
  go_loopw [4, 5, 6, 7, 8, 9, 10, 11, 12] (fun U0 U1 V0 V1 E A1 A2 U2 V2 wr => ∃ (u0 u1 v0 v1 a1 a2 u2 v2 : Nat) (ev : Bool) (q : Nat), U0 = .int .u64 u0 ∧ U1 = .int .u64 u1 ∧ V0 = .int .u64 v0 ∧ V1 = .int .u64 v1 ∧ E = .bool ev ∧ A1 = .int .u64 a1 ∧ A2 = .int .u64 a2 ∧ U2 = .int .u64 u2 ∧ V2 = .int .u64 v2 ∧ Leh a b K u0 u1 u2 v0 v1 v2 a1 a2 ev ∧ wr = w.drewN q) (fun _ _ _ _ _ _ A2 _ _ _ => (intOf A2).toNat)
  case atStart => exact ⟨0, 1, 0, 0, _, _, 0, 1, false, 1, rfl, rfl, rfl, rfl, rfl, rfl, rfl, rfl, rfl, hLs.out, rfl⟩
  case round =>
   obtain ⟨u0, u1, v0, v1, a1, a2, u2, v2, ev, q, rfl, rfl, rfl, rfl, rfl, rfl, rfl, rfl, rfl, hL, hwr⟩ := hrel
   have hLH := Lib.hid hL
   have hwr' := Lib.hid hwr
   obtain ⟨b0, b1, b2, b3, b4, b5⟩ := hL.bd
   clear hL hwr
   have hsum := hLH.out.sum
   have hle21 := hLH.out.le
   have hone := hLH.out.one
   have ha1W : a1 < WB := by
    have h1 := Nat.le_mul_of_pos_left a1 (show 0 < v2 by omega)
    have := hKK.out.2
    omega
   by_cases c1 : v2 ≤ a2
   ·have t1 : (v2 : Int) ≤ a2 := by omega
    obtain ⟨d, hd⟩ : ∃ d, a1 - a2 = d := ⟨_, rfl⟩
    obtain ⟨sv, hsv⟩ : ∃ d, v1 + v2 = d := ⟨_, rfl⟩
    have hsW : sv < WB := by
     have h1 := Nat.le_mul_of_pos_right v2 (show 0 < a1 by omega)
     have h2 := Nat.le_mul_of_pos_right v1 (show 0 < a2 by omega)
     have := hKK.out.2
     omega
    have e1 : (a1 : Int) - a2 = d := by omega
    have e2 : (v1 : Int) + v2 = sv := by omega
    have x1 := wrapW (show d < WB by omega)
    have x2 := wrapW hsW
    by_cases c2 : v1 + v2 + a2 ≤ a1
    ·have t2 : (sv : Int) ≤ d := by omega
     have hst := hLH.out.step hKK.out.1 hKK.out.2 c1 c2
     obtain ⟨g0, g1', g2', g3', g4', g5'⟩ := hst.bd
     have ha2 : 0 < a2 := by omega
     have hrl := Nat.mod_lt a1 ha2
     have p1 : Int.tdiv (a1 : Int) (a2 : Int) = ((a1 / a2 : Nat) : Int) := rfl
     have p2 : Int.tmod (a1 : Int) (a2 : Int) = ((a1 % a2 : Nat) : Int) := rfl
     obtain ⟨Q, hQ⟩ : ∃ x, a1 / a2 = x := ⟨_, rfl⟩
     obtain ⟨R, hR⟩ : ∃ x, a1 % a2 = x := ⟨_, rfl⟩
     rw [hQ] at hst p1 g2' g5'
     rw [hR] at hst p2 hrl
     obtain ⟨M2, hM2⟩ : ∃ x, Q * u2 = x := ⟨_, rfl⟩
     obtain ⟨M3, hM3⟩ : ∃ x, Q * v2 = x := ⟨_, rfl⟩
     rw [hM2] at hst g2'
     rw [hM3] at hst g5'
     have y1 : (Q : Int) * u2 = M2 := by rw [← hM2]; simp
     have y2 : (Q : Int) * v2 = M3 := by rw [← hM3]; simp
     obtain ⟨S2, hS2⟩ : ∃ x, u1 + M2 = x := ⟨_, rfl⟩
     obtain ⟨S3, hS3⟩ : ∃ x, v1 + M3 = x := ⟨_, rfl⟩
     rw [hS2] at hst g2'
     rw [hS3] at hst g5'
     have y3 : (u1 : Int) + M2 = S2 := by omega
     have y4 : (v1 : Int) + M3 = S3 := by omega
     have x3 := wrapW (show M2 < WB by omega)
     have x4 := wrapW (show M3 < WB by omega)
     have xQ := wrapW (show Q < WB by rw [← hQ]; exact Nat.lt_of_le_of_lt (Nat.div_le_self _ _) ha1W)
     have x5 := wrapW g2'
     have x6 := wrapW g5'
     have tz : ((a2 : Int) == 0) = false := by simp; omega
     have tz' : ¬ (a2 : Int) = 0 := by omega
     have hst := Lib.hid hst
     have hrl := Lib.hid hrl
     clear hQ hR hM2 hM3 hS2 hS3 hd hsv hsum hle21 hone ha1W c1 c2 g0 g1' g2' g3' g4' g5' b0 b1 b2 b3 b4 b5 hsW ha2
     go_wp2_with fail
     go_region
     all_goals go_wp2_with fail
     all_goals go_roundw
     case rel => exact ⟨u1, u2, v1, v2, a2, R, S2, S3, !ev, q + 1, rfl, rfl, rfl, rfl, rfl, rfl, rfl, by first | rfl | rw [xQ, y1, x3, y3, x5], by first | rfl | rw [xQ, y2, x4, y4, x6], hst.out, by rw [hwr'.out]; rfl⟩
     case measure => have := hrl.out; simp [intOf]; omega
    ·have t2 : ¬ (sv : Int) ≤ d := by omega
     clear hd hsv hsum hle21 hone ha1W c1 c2 b0 b1 b2 b3 b4 b5 hsW
     go_wp2_with fail
     refine bodyPost_ret (v := .tuple #[.int .u64 u0, .int .u64 u1, .int .u64 v0, .int .u64 v1, .bool ev]) (by simp [results, Tryz.results254, go_sem]) rfl ?_
     exact ⟨u0, u1, v0, v1, ev, q, rfl, by obtain ⟨b0, b1, b2, b3, b4, b5⟩ := hLH.out.bd; exact ⟨b0, b1, b3, b4⟩, hLH.out.out, hwr'.out⟩
   ·have t1 : ¬ (v2 : Int) ≤ a2 := by omega
    clear hsum hle21 hone ha1W c1 b0 b1 b2 b3 b4 b5
    go_wp2_with fail
    refine bodyPost_ret (v := .tuple #[.int .u64 u0, .int .u64 u1, .int .u64 v0, .int .u64 v1, .bool ev]) (by simp [results, Tryz.results254, go_sem]) rfl ?_
    exact ⟨u0, u1, v0, v1, ev, q, rfl, by obtain ⟨b0, b1, b2, b3, b4, b5⟩ := hLH.out.bd; exact ⟨b0, b1, b3, b4⟩, hLH.out.out, hwr'.out⟩
end Go.Proofs.YtgamldefngehlaaGreatDoor
