/- The long division: a round in the middle. -/
import Derived.Test.YtgamldefngehlaaGreatDoorM13
set_option linter.unusedVariables false
set_option linter.unusedSimpArgs false
namespace Go.Proofs.YtgamldefngehlaaGreatDoor
open Go.RowKit
set_option maxRecDepth 1000000 in
set_option maxHeartbeats 4000000 in
theorem db_mid (W0 : World) (gq gu gv gh n m k k1 un n1 cv ch v1 rc tu : Nat) (Cq Cu us0 vs zs : List Nat) (U V : Nat) (s : Nat) (c4 c5 c6 c7 c24 c25 c26 c27 c28 c29 c30 c31 c32 c33 c34 c35 c36 c37 c38 c39 c40 c41 c42 c43 c44 u15 u16 u17 u18 u19 u20 u21 u22 u23 u45 u46 u47 u48 u49 u50 u51 u52 u53 u54 u55 u56 u57 u58 u59 u60 u61 u62 u63 u64 u65 u66 u67 u68 u69 u70 u71 u72 u73 u74 u75 u76 u77 u78 u79 u80 u81 u82 u83 u84 u85 u86 u87 u88 u89 u90 u91 u92 u93 u94 u95 u96 u97 u98 u99 u100 u101 u102 u103 u104 u105 u106 u107 u108 u109 u110 u111 u112 u113 u114 u115 u116 u117 u118 u119 u120 u121 u122 u123 u124 u125 u126 u127 u128 u129 u130 u131 u132 u133 u134 u135 u136 u137 u138 u139 u140 u141 u142 u143 u144 u145 u146 u147 u148 u149 u150 u151 u152 u153 u154 u155 u156 u157 u158 u159 u160 u161 u162 u163 u164 u165 u166 u167 u168 u169 u170 u171 u172 u173 u174 u175 u176 u177 u178 u179 u180 u181 u182 u183 u184 u185 u186 u187 u188 u189 u190 u191 u192 u193 u194 u195 u196 u197 u198 u199 u200 : Value) (wr : World) (Q0 : Exit → Act → World → Prop) (c : DbCtx W0 gq gu gv gh n m k k1 un n1 cv ch v1 rc tu Cq Cu us0 vs zs U V) (i uj : Nat) (us : List Nat) (hM : DivMem W0 wr gu gq gh un n (i + 1) Cu Cq us zs) (hjm : i + 1 ≤ m) (hval : val WB (us.drop (i + 1)) = U / WB ^ (i + 1) % V) (htk : us.take (i + 1) = us0.take (i + 1)) (huj' : us[i + n]? = some uj) :
  Code.wp Tryz.prog dbBody (Exit.then (fun a' w' => DbI W0 gq gu gv gh n m k k1 un n1 cv ch v1 rc tu Cq Cu us0 vs zs U V s c4 c5 c6 c7 c24 c25 c26 c27 c28 c29 c30 c31 c32 c33 c34 c35 c36 c37 c38 c39 c40 c41 c42 c43 c44 a' w' ∧ (intOf (a'.tmps.getD 14 undef) + 1).toNat < (intOf (.int .i64 (i : Int)) + 1).toNat) Q0)
   ⟨#[.slice (some ⟨gq, 0, none⟩) m Cq.length, .pointer (some ⟨s, 0, none⟩), .slice (some ⟨gu, 0, none⟩) un Cu.length, .slice (some ⟨gv, 0, none⟩) n cv, c4, c5, c6, c7, .int .i64 (n : Int), .int .i64 (m : Int), .slice (some ⟨gh, 0, none⟩) n1 ch, .int .u64 (v1 : Int), .int .u64 (rc : Int), (.int .u64 (uj : Int)), (.int .i64 (i : Int)), u15, u16, u17, u18, u19, u20, u21, u22, u23, c24, c25, c26, c27, c28, c29, c30, c31, c32, c33, c34, c35, c36, c37, c38, c39, c40, c41, c42, c43, c44, u45, u46, u47, u48, u49, u50, u51, u52, u53, u54, u55, u56, u57, u58, u59, u60, u61, u62, u63, u64, u65, u66, u67, u68, u69, u70, u71, u72, u73, u74, u75, u76, u77, u78, u79, u80, u81, u82, u83, u84, u85, u86, u87, u88, u89, u90, u91, u92, u93, u94, u95, u96, u97, u98, u99, u100, u101, u102, u103, u104, u105, u106, u107, u108, u109, u110, u111, u112, u113, u114, u115, u116, u117, u118, u119, u120, u121, u122, u123, u124, u125, u126, u127, u128, u129, u130, u131, u132, u133, u134, u135, u136, u137, u138, u139, u140, u141, u142, u143, u144, u145, u146, u147, u148, u149, u150, u151, u152, u153, u154, u155, u156, u157, u158, u159, u160, u161, u162, u163, u164, u165, u166, u167, u168, u169, u170, u171, u172, u173, u174, u175, u176, u177, u178, u179, u180, u181, u182, u183, u184, u185, u186, u187, u188, u189, u190, u191, u192, u193, u194, u195, u196, u197, u198, u199, u200], [{ target := .fn (.func 286) #[], args := #[.pointer (some ⟨s, 0, none⟩), .int .i64 0] }]⟩ wr := by
 obtain ⟨hv0, hqL, hm0, hm, hvn, wv, wu, htu, hv1, hnorm, htop, h1, h2, h3, hcv, hn4, huL, hun, hn1, hk1, hk, hch, hD, husl, hV, hU, hzs, hzl, hghu, hghq, hghv, hvm⟩ := c
 have hD := Lib.hid hD
 have e1 : (un : Int) - n = m := by omega
 have e2 : (n : Int) + 1 = n1 := by omega
 have e3 : (n : Int) - 1 = k1 := by omega
 have e4 : (n : Int) - 2 = k := by omega
 have hkH := Lib.hid hk
 have hnH := Lib.hid (show k1 < n ∧ k < n by omega)
 clear hk
 have t1 : (k1 : Int) < n := by have := hnH.out; omega
 have t1' : (0 : Int) ≤ k1 := by omega
 obtain ⟨hkv, hv1e⟩ := List.getElem?_eq_some_iff.1 hv1
 have wk1 := wv.get k1 hkv
 rw [hv1e] at wk1
 have hvnz : v1 ≠ 0 := by
  have := WB_pos
  omega
 conv => arg 2; whnf
 obtain ⟨Ch', hCb, hCl⟩ := hM.hb
 have huv := (VecOut.mk (w := W0) (w' := wr) (bz := gu) (oz := 0) (C := Cu) (zs := us) (n := un) hM.ul hM.uw hM.ub)
 have hgvT : ¬ (gv = gu ∨ gv = gq ∨ gv = gh) := by rintro (e | e | e) <;> first | exact h2 e | exact h3 e | exact hghv e.symm
 have hvr := hv0.kept hM.keep hgvT
 have hlo : (over Cu 0 us).length = Cu.length := over_length _ _ _ (by rw [hM.ul]; omega)
 have hur : Vec wr gu 0 us := fun i hi => by
  have hiu : i < un := by rw [← hM.ul]; exact hi
  rw [Nat.zero_add, cellOf hM.ub]
  have := over_get_in Cu 0 us i (Nat.zero_le _) (by omega) (by omega)
  rw [Nat.sub_zero, List.getElem?_eq_getElem hi] at this
  simp [u64s, this]
 clear huv
 have cv2 := hvr k (by have := hnH.out; omega)
 rw [Nat.zero_add] at cv2
 obtain ⟨v2, hv2⟩ : ∃ v2, vs[k]'(by have := hnH.out; omega) = v2 := ⟨_, rfl⟩
 have wv2 : v2 < WB := by rw [← hv2]; exact wv.get k (by have := hnH.out; omega)
 rw [hv2] at cv2
 have hkk := hkH.out
 have hxi : us[i]? = some (U / WB ^ i % WB) := by
  have h1 := congrArg (·[i]?) htk
  simp only [List.getElem?_take_of_lt (show i < i + 1 by omega)] at h1
  rw [h1]
  have hd := qdig0 us0 i (by omega) wu
  rw [hU] at hd
  exact hd
 obtain ⟨ws, hws, hwin, hw2, hw1', hw0, hq, hR, hz0⟩ := window (vs := vs) (us := us) (n := n) (k := k) (i := i) (un := un) (U := U) (V := V) (v1 := v1) (uj := uj) hkk hvn hM.ul (by omega) wv hM.uw hV (by rw [hk1]; exact hv1) hnorm hxi hval huj'
 obtain ⟨a1, ha1⟩ : ∃ a, i + k1 = a := ⟨_, rfl⟩
 obtain ⟨a0, ha0⟩ : ∃ a, i + k = a := ⟨_, rfl⟩
 obtain ⟨an, han⟩ : ∃ a, i + n = a := ⟨_, rfl⟩
 obtain ⟨x1, hx1⟩ : ∃ x, us[a1]? = some x := ⟨_, List.getElem?_eq_getElem (by rw [hM.ul]; omega)⟩
 obtain ⟨x0, hx0⟩ : ∃ x, us[a0]? = some x := ⟨_, List.getElem?_eq_getElem (by rw [hM.ul]; omega)⟩
 rw [show i + k + 1 = a1 by omega, hx1] at hw1'
 rw [ha0, hx0] at hw0
 have wx1 : x1 < WB := by obtain ⟨h, e⟩ := List.getElem?_eq_some_iff.1 hx1; rw [← e]; exact hM.uw.get _ h
 have wx0 : x0 < WB := by obtain ⟨h, e⟩ := List.getElem?_eq_some_iff.1 hx0; rw [← e]; exact hM.uw.get _ h
 have cx1 : wr.cell? ⟨gu, a1, none⟩ = some (.int .u64 (x1 : Int)) := by obtain ⟨h, e⟩ := List.getElem?_eq_some_iff.1 hx1; have := hur a1 h; rwa [Nat.zero_add, e] at this
 have cx0 : wr.cell? ⟨gu, a0, none⟩ = some (.int .u64 (x0 : Int)) := by obtain ⟨h, e⟩ := List.getElem?_eq_some_iff.1 hx0; have := hur a0 h; rwa [Nat.zero_add, e] at this
 have hvk : vs[k]? = some v2 := by rw [← hv2]; exact List.getElem?_eq_getElem _
 have hvk1 : vs[k + 1]? = some v1 := by rw [hk1]; exact hv1
 obtain ⟨_, gw2⟩ := List.getElem?_eq_some_iff.1 hw2
 obtain ⟨_, gw1⟩ := List.getElem?_eq_some_iff.1 hw1'
 obtain ⟨_, gw0⟩ := List.getElem?_eq_some_iff.1 hw0
 obtain ⟨_, gv1⟩ := List.getElem?_eq_some_iff.1 hvk1
 obtain ⟨_, gv0⟩ := List.getElem?_eq_some_iff.1 hvk
 have htop' := hwin.top_le
 have hstart := hwin.start
 have hdown := fun qh rh => hwin.down (qh := qh) (rh := rh)
 have hstop := fun qh rh => hwin.stop (qh := qh) (rh := rh)
 have hmax := hwin.max
 simp only [gw2, gw1, gw0, gv1, gv0, hV] at htop' hstart hdown hstop hmax
 have hql := hwin.qlt
 rw [hV] at hql
 obtain ⟨X, hX⟩ : ∃ X, val WB ws = X := ⟨_, rfl⟩
 rw [hX] at hq hR hstart hdown hstop hmax hql
 obtain ⟨qt, hqt⟩ : ∃ qt, X / V = qt := ⟨_, rfl⟩
 rw [hqt] at hq hstart hdown hstop hmax hql
 have e5 : (i : Int) + n = an := by omega
 have e6 : (an : Int) - 1 = a1 := by omega
 have e7 : (an : Int) - 2 = a0 := by omega
 have b1 : (a1 : Int) < un := by omega
 have b2 : (a0 : Int) < un := by omega
 have b4 : (k : Int) < n := by have := hnH.out; omega
 clear hkk hw2 hw1' hw0 hx1 hx0 hvk hvk1 huj' hxi gw2 gw1 gw0 gv1 gv0
 go_upto_if 51 with fail
 go_cut [15, 16, 17, 18, 19, 20] from 49 to 104 (fun sq s16 s17 s18 s19 s20 wx => ∃ qh : Nat, sq = .int .u64 qh ∧ qt ≤ qh ∧ qh ≤ qt + 1 ∧ qh < WB ∧ wx = wr)
 case first =>
  by_cases hu1 : uj = v1
  ·subst hu1
   obtain ⟨hm1, hm2⟩ := hmax rfl
   have t0 : ((uj : Int) != uj) = false := by simp
   go_wp2_with fail
   go_meet
   refine ⟨WB - 1, ?_, by omega, by omega, by have := WB_pos; omega, rfl⟩
   rw [WB_eq]; rfl
  ·have hul : uj < v1 := by omega
   have t0 : ((uj : Int) != v1) = true := by simp; omega
   have hP1 := hD.out uj x1 hul wx1 wr
   have hqr := Nat.div_add_mod (uj * WB + x1) v1
   have hrl := Nat.mod_lt (uj * WB + x1) (show v1 > 0 by omega)
   have hql0 : (uj * WB + x1) / v1 < WB := qdig_lt hul wx1
   generalize (uj * WB + x1) / v1 = qh0 at *
   generalize (uj * WB + x1) % v1 = rh0 at *
   have hP2 := mulWW_any qh0 v2 hql0 wv2 wr
   have hme := mac_eq qh0 v2 0
   have hl1 := macL_lt qh0 v2 0
   have hl2 := macH_lt hql0 wv2 WB_pos
   generalize macL qh0 v2 0 = y0 at *
   generalize macH qh0 v2 0 = y1 at *
   have hP1 := Lib.hid hP1
   have hP2 := Lib.hid hP2
   go_wp2_with fail
   refine hP1.out.mono ?_
   rintro e w2 ⟨rfl, hw2⟩
   obtain rfl := hw2.symm
   go_wp2_with fail
   refine hP2.out.mono ?_
   rintro e w2 ⟨rfl, hw2⟩
   obtain rfl := hw2.symm
   go_wp2_with fail
   go_loopw [15, 16, 18, 19] (fun a b c d wx => ∃ qh rh z1 z0 : Nat, a = .int .u64 qh ∧ b = .int .u64 rh ∧ c = .int .u64 z1 ∧ d = .int .u64 z0 ∧ qt ≤ qh ∧ qh < WB ∧ rh < WB ∧ z0 < WB ∧ z1 < WB ∧ uj * WB + x1 = qh * v1 + rh ∧ z1 * WB + z0 = qh * v2 ∧ wx = wr) (fun a _ _ _ _ => (intOf a).toNat)
   case atStart => exact ⟨qh0, rh0, y1, y0, rfl, rfl, rfl, rfl, hstart, hql0, by omega, hl1, hl2, by rw [← hqr, Nat.mul_comm], by rw [Nat.mul_comm y1]; omega, rfl⟩
   case round =>
    obtain ⟨qh, rh, z1, z0, rfl, rfl, rfl, rfl, hi1, hi2, hi3, hi4, hi5, hi6, hi7, hwx⟩ := hrel
    obtain rfl := hwx.symm
    have hP3 := greaterThan_any z1 z0 rh x0 wr hi4 wx0
    rw [hi7] at hP3
    by_cases hg : rh * WB + x0 < qh * v2
    ·rw [decide_eq_true hg] at hP3
     have hP3 := Lib.hid hP3
     have hlt := hdown qh rh hi6 hg
     obtain ⟨qh', hqh'⟩ : ∃ q', qh - 1 = q' := ⟨_, rfl⟩
     have hqh1 : qh = qh' + 1 := by omega
     have hv2l : v2 ≤ qh * v2 := Nat.le_mul_of_pos_left _ (by omega)
     have hqv : qh' * v2 = qh * v2 - v2 := by rw [hqh1, Nat.succ_mul]; omega
     have hqv1 : qh' * v1 + v1 = qh * v1 := by rw [hqh1, Nat.succ_mul]
     have w1 : (qh : Int) - 1 = (qh' : Int) := by omega
     have w1' : IntKind.u64.wrap (qh' : Int) = (qh' : Int) := wrapW (by omega)
     by_cases hov : rh + v1 < WB
     ·obtain ⟨rh', hrh'⟩ : ∃ r', rh + v1 = r' := ⟨_, rfl⟩
      have w2 : (rh : Int) + v1 = (rh' : Int) := by omega
      have w2' : IntKind.u64.wrap (rh' : Int) = (rh' : Int) := wrapW (by omega)
      have t3 : ¬ (rh' : Int) < v1 := by omega
      by_cases hbr : z0 < v2
      ·have hz1 : 0 < z1 := by
        rcases Nat.eq_zero_or_pos z1 with e | e
        ·subst e; rw [Nat.zero_mul, Nat.zero_add] at hi7; omega
        ·exact e
       obtain ⟨z1', hz1'⟩ : ∃ z', z1 - 1 = z' := ⟨_, rfl⟩
       obtain ⟨z0', hz0'⟩ : ∃ z', z0 + WB - v2 = z' := ⟨_, rfl⟩
       have w3 : (z1 : Int) - 1 = (z1' : Int) := by omega
       have w3' : IntKind.u64.wrap (z1' : Int) = (z1' : Int) := wrapW (by omega)
       have w4 : IntKind.u64.wrap ((z0 : Int) - v2) = (z0' : Int) := by
        rw [IntKind.wrap_u64]
        rw [WB_eq] at *
        omega
       have t4 : (z0 : Int) < v2 := by omega
       have hn7 : z1' * WB + z0' = qh' * v2 := by
        have : z1 = z1' + 1 := by omega
        rw [this, Nat.succ_mul] at hi7
        omega
       have hfin := Lib.hid (show ∃ q r y1 y0 : Nat, q = qh' ∧ r = rh' ∧ y1 = z1' ∧ y0 = z0' ∧ qt ≤ q ∧ q < WB ∧ r < WB ∧ y0 < WB ∧ y1 < WB ∧ uj * WB + x1 = q * v1 + r ∧ y1 * WB + y0 = q * v2 from ⟨qh', rh', z1', z0', rfl, rfl, rfl, rfl, by omega, by omega, by omega, by omega, by omega, by omega, hn7⟩)
       have hms := Lib.hid (show qh' < qh by omega)
       clear hi1 hi2 hi3 hi4 hi5 hi6 hi7 hg hlt hqh' hqh1 hv2l hqv hqv1 hov hrh' hbr hn7 hz0' hz1 hz1'
       go_wp2_with fail
       refine hP3.out.mono ?_
       rintro e w2 ⟨rfl, hw2⟩
       obtain rfl := hw2.symm
       go_wp2_with fail
       go_roundw
       case rel =>
        obtain ⟨_, _, _, _, rfl, rfl, rfl, rfl, f1, f2, f3, f4, f5, f6, f7⟩ := hfin.out
        exact ⟨_, _, _, _, rfl, rfl, rfl, rfl, f1, f2, f3, f4, f5, f6, f7, by simp⟩
       case measure => have := hms.out; simp [intOf]; omega
      ·obtain ⟨z0', hz0'⟩ : ∃ z', z0 - v2 = z' := ⟨_, rfl⟩
       have w4 : (z0 : Int) - v2 = (z0' : Int) := by omega
       have w4' : IntKind.u64.wrap (z0' : Int) = (z0' : Int) := wrapW (by omega)
       have t4 : ¬ (z0 : Int) < v2 := by omega
       have hn7 : z1 * WB + z0' = qh' * v2 := by omega
       have hfin := Lib.hid (show ∃ q r y1 y0 : Nat, q = qh' ∧ r = rh' ∧ y1 = z1 ∧ y0 = z0' ∧ qt ≤ q ∧ q < WB ∧ r < WB ∧ y0 < WB ∧ y1 < WB ∧ uj * WB + x1 = q * v1 + r ∧ y1 * WB + y0 = q * v2 from ⟨qh', rh', z1, z0', rfl, rfl, rfl, rfl, by omega, by omega, by omega, by omega, by omega, by omega, hn7⟩)
       have hms := Lib.hid (show qh' < qh by omega)
       clear hi1 hi2 hi3 hi4 hi5 hi6 hi7 hg hlt hqh' hqh1 hv2l hqv hqv1 hov hrh' hbr hn7 hz0'
       go_wp2_with fail
       refine hP3.out.mono ?_
       rintro e w2 ⟨rfl, hw2⟩
       obtain rfl := hw2.symm
       go_wp2_with fail
       go_roundw
       case rel =>
        obtain ⟨_, _, _, _, rfl, rfl, rfl, rfl, f1, f2, f3, f4, f5, f6, f7⟩ := hfin.out
        exact ⟨_, _, _, _, rfl, rfl, rfl, rfl, f1, f2, f3, f4, f5, f6, f7, by simp⟩
       case measure => have := hms.out; simp [intOf]; omega
     ·obtain ⟨rh', hrh'⟩ : ∃ r', rh + v1 - WB = r' := ⟨_, rfl⟩
      have w2 : IntKind.u64.wrap ((rh : Int) + v1) = (rh' : Int) := by
       rw [IntKind.wrap_u64]
       rw [WB_eq] at *
       omega
      have t3 : (rh' : Int) < v1 := by omega
      have hqb : qh' ≤ qt + 1 := by
       refine hstop qh' (rh + v1) (by omega) (by omega) ?_
       have a1 : WB * WB ≤ (rh + v1) * WB := Nat.mul_le_mul_right _ (by omega)
       have a2 : qh' * v2 ≤ WB * WB := Nat.mul_le_mul (by omega) (Nat.le_of_lt wv2)
       omega
      have hfin := Lib.hid (show qt ≤ qh' ∧ qh' ≤ qt + 1 ∧ qh' < WB from ⟨by omega, hqb, by omega⟩)
      clear hi1 hi2 hi3 hi4 hi5 hi6 hi7 hg hlt hqh' hqh1 hv2l hqv hqv1 hov hrh' hqb
      go_wp2_with fail
      refine hP3.out.mono ?_
      rintro e w2 ⟨rfl, hw2⟩
      obtain rfl := hw2.symm
      go_wp2_with fail
      go_meet
      exact ⟨qh', rfl, hfin.out.1, hfin.out.2.1, hfin.out.2.2, rfl⟩
    ·rw [decide_eq_false hg] at hP3
     have hP3 := Lib.hid hP3
     have hle := hstop qh rh (by omega) hi6 (by omega)
     go_wp2_with fail
     refine hP3.out.mono ?_
     rintro e w2 ⟨rfl, hw2⟩
     obtain rfl := hw2.symm
     go_wp2_with fail
     go_meet
     exact ⟨qh, rfl, hi1, hle, hi2, rfl⟩
 case rest =>
  obtain ⟨qh, rfl, hqa, hqb, hqc, hwx⟩ := hcut
  obtain rfl := hwx.symm
  have hP4 := Lib.hid (mulAddVWW_any wr gh 0 ch gv 0 cv n qh 0 Ch' vs hCb hvr hvn (by omega) (.inr rfl) wv hqc WB_pos (by omega))
  obtain ⟨an1, han1⟩ : ∃ a, i + n1 = a := ⟨_, rfl⟩
  have e8 : (i : Int) + n1 = an1 := by omega
  have b5 : (n : Int) < n1 := by omega
  have b6 : decide (un < an1) = false := by simp; omega
  go_wp2_with fail
  refine hP4.out.mono ?_
  rintro e w3 ⟨z4, c4, rfl, hc4, hv4, ho4⟩
  rw [hV, Nat.add_zero] at hv4
  have ho5 := ho4.snoc c4 hc4 (by omega)
  rw [Nat.zero_add] at ho5
  obtain ⟨u4, hu4⟩ := ho4.there (by omega)
  rw [Nat.zero_add] at hu4
  have hf4 := ho4.room n
  have hlo5 : (over Ch' 0 (z4 ++ [c4])).length = Ch'.length := over_length _ _ _ (by rw [ho5.len]; omega)
  obtain ⟨w4, hw4⟩ : ∃ w4, w3.setCell ⟨gh, n, none⟩ (.int .u64 (c4 : Int)) = w4 := ⟨_, rfl⟩
  rw [hw4] at ho5
  have hub5 : Blk w4 gu (over Cu 0 us) := hM.ub.kept ho5.keep (fun e => hghu e.symm)
  have ho5' := Lib.hid ho5
  have hw4' := Lib.hid hw4
  clear ho5 hw4
  go_wp2_with fail
  rw [hw4'.out]
  have s1 := midN0 gu un Cu.length i an1 (by omega) (by omega) (by omega)
  rw [show an1 - i = n1 by omega] at s1
  have hu5 : VecOut w4.drew w4.drew gu 0 Cu us un := ⟨hM.ul, hM.uw, hub5, Keeps.refl _ _⟩
  have hud : Vec w4.drew gu i ((us.drop i).take (n + 1)) := by have := ((hu5.vec huL).drop i).take (n + 1); rwa [Nat.zero_add] at this
  rw [hws] at hud
  have hz5 : Vec w4.drew gh 0 (z4 ++ [c4]) := (ho5'.out.drew).vec (by omega)
  have hwsl : ws.length = n1 := by rw [hwin.wl]; have := hkH.out; omega
  have hP5 := Lib.hid (subVV_any w4.drew gu i (Cu.length - i) gu i (Cu.length - i) gh 0 ch n1 (over Cu 0 us) ws (z4 ++ [c4]) hub5 hud hz5 hwsl (by rw [ho5'.out.len]; omega) (by rw [hlo]; omega) (.inr rfl) (.inl hghu) hwin.ww ho5'.out.words (by omega))
  have w5 : IntKind.i64.wrap (an1 : Int) = (an1 : Int) := by rw [IntKind.wrap_i64]; omega
  have t9 : (n1 : Int) ≤ ch := by omega
  go_still_tail 15, (by kernel_rfl)
  change wpList _ _ _ _ _ w4.drew
  clear w5
  go_wp2_with fail
  refine hP5.out.mono ?_
  rintro e w5 ⟨z5, c5, rfl, hc5, hv5, ho6⟩
  rw [val_snoc, ho4.len, hv4, hX] at hv5
  have hV0 : 0 < V := by have := hwin.vpos; rwa [hV] at this
  have hz5l : val WB z5 < WB ^ n1 := by have := val_lt ho6.words; rwa [ho6.len] at this
  have hu6 := hu5.within ho6 (by omega) huL
  have hk6 : Keeps (fun k => k = gu ∨ k = gq ∨ k = gh) W0 w5 := (hM.keep.trans (ho5'.out.keep.drew) (fun _ _ e => .inr (.inr e))).trans ho6.keep (fun _ _ e => .inl e)
  have hq6 : Blk w5 gq (over Cq (i + 1) (zs.drop (i + 1))) := (hM.qk.kept ho5'.out.keep.drew hghq.symm).kept ho6.keep h1
  have hb6 : Blk w5 gh (over Ch' 0 (z4 ++ [c4])) := Blk.kept (w := w4.drew) ho5'.out.blk ho6.keep hghu
  have hzi : zs[i]? = some qt := by rw [← hzs, lowd_get _ _ _ (by omega), ← hq]
  clear hq
  have hz5n := ho6.len
  have ho5l := ho4.len
  have d1 : decide ((i : Int) = m) = false := by simp; omega
  have d2 : ((i : Int) == m) = false := by simp; omega
  have b7 : (a1 : Int) < un := by omega
  have b8 : (i : Int) < m := by omega
  have hqn : (i + 1) + (zs.drop (i + 1)).length ≤ Cq.length := by rw [List.length_drop, hzl]; omega
  have hi0 : i < zs.length := by omega
  rcases (show c5 = 0 ∨ c5 = 1 by omega) with hc | hc
  ·as_aux_lemma =>
   subst hc
   obtain ⟨hqe, hze⟩ := sub_right hV0 hqt hqa hqb hv5
   rw [hR] at hze
   obtain ⟨us', hus'⟩ : ∃ us', over us i z5 = us' := ⟨_, rfl⟩
   rw [hus'] at hu6
   have hvu : val WB (us'.drop i) = U / WB ^ i % V := by rw [← hus', over_drop_val (by rw [hM.ul, hz5n]; omega) (by rw [hz5n, ← hn1]; exact hz0), hze]
   have htu6 : us'.take i = us0.take i := by
    rw [← hus', over_take (by rw [hM.ul]; omega)]
    have := congrArg (·.take i) htk
    simpa [List.take_take] using this
   obtain ⟨uj', huj'⟩ : ∃ x, us'[a1]? = some x := ⟨_, List.getElem?_eq_getElem (by rw [hu6.len]; omega)⟩
   have cu6 : w5.cell? ⟨gu, a1, none⟩ = some (.int .u64 (uj' : Int)) := by
    obtain ⟨h, e⟩ := List.getElem?_eq_some_iff.1 huj'
    have := (hu6.vec huL) a1 h
    rwa [Nat.zero_add, e] at this
   have hqs := hq6.set i qt
   have hcq : over Cq i (zs.drop i) = (over Cq (i + 1) (zs.drop (i + 1))).set i qt := by
    have := over_top Cq 0 zs i hi0 (by omega)
    obtain ⟨_, e⟩ := List.getElem?_eq_some_iff.1 hzi
    rw [Nat.zero_add, e] at this
    exact this.symm
   rw [← hcq] at hqs
   have cq6 := hq6.cell i (by rw [over_length _ _ _ hqn]; omega)
   have fq6 := hq6.frozen i
   have hu7 : Blk (w5.setCell ⟨gq, i, none⟩ (.int .u64 (qt : Int))) gu (over Cu 0 us') := by
    unfold Blk
    rw [blk_setCell_ne (fun e => h1 e.symm)]
    exact hu6.blk
   have hb7 : Blk (w5.setCell ⟨gq, i, none⟩ (.int .u64 (qt : Int))) gh (over Ch' 0 (z4 ++ [c4])) := by
    unfold Blk
    rw [blk_setCell_ne hghq]
    exact hb6
   have hM' : DivMem W0 (w5.setCell ⟨gq, i, none⟩ (.int .u64 (qt : Int))) gu gq gh un n i Cu Cq us' zs := ⟨hu6.len, hu6.words, hu7, hqs, ⟨_, hb7, by rw [hlo5]; omega⟩, hk6.setCell _ _ (fun _ => .inr (.inl rfl))⟩
   have hM' := Lib.hid hM'
   have hfin := Lib.hid (show i ≤ m ∧ val WB (us'.drop i) = U / WB ^ i % V ∧ us'.take i = us0.take i ∧ (i = 0 ∨ us'[i - 1 + n]? = some uj') from ⟨by omega, hvu, htu6, (Nat.eq_zero_or_pos i).imp id (fun h => by rw [show i - 1 + n = a1 by omega]; exact huj')⟩)
   clear hqt hR hu6 ho6 hv5 hvu htu6 huj' hu7 hb7 hqs hcq hzi hi0
   subst hqe
   go_wp2_with fail
   refine ⟨?_, ?measure⟩
   unfold DbI
   (repeat apply Exists.intro)
   refine ⟨?rel, rfl⟩
   case rel => exact ⟨us', _, i, uj', rfl, rfl, hM'.out, .inr ⟨by omega, hfin.out⟩⟩
   case measure => simp [intOf]
  ·as_aux_lemma =>
   subst hc
   obtain ⟨hqe, hze⟩ := sub_back hV0 hqt hqa hqb hz5l hv5
   rw [hR] at hze
   obtain ⟨us5, hus5⟩ : ∃ us5, over us i z5 = us5 := ⟨_, rfl⟩
   rw [hus5] at hu6
   have hz5t : (us5.drop i).take n = z5.take n := by
    rw [← hus5, over_drop0 (by rw [hM.ul, hz5n]; omega), List.take_append_of_le_length (by omega)]
   have hz5d : val WB (us5.drop (i + (n + 1))) = 0 := by
    have := over_drop (us := us) (ws := z5) (i := i) (by rw [hM.ul, hz5n]; omega)
    rw [hus5, hz5n, ← hn1] at this
    rw [this]; exact hz0
   have ht5 := val_top (xs := z5) (n := n) (by omega)
   have cz5 : w5.cell? ⟨gu, an, none⟩ = some (.int .u64 ((z5[n]'(by omega) : Nat) : Int)) := by
    have h : us5[an]? = some (z5[n]'(by omega)) := by
     rw [← hus5, over_get_in us i z5 an (by omega) (by omega) (by rw [hM.ul]; omega), show an - i = n by omega]
     exact List.getElem?_eq_getElem _
    obtain ⟨h, e⟩ := List.getElem?_eq_some_iff.1 h
    have := (hu6.vec huL) an h
    rwa [Nat.zero_add, e] at this
   have hRl : U / WB ^ i % V < WB ^ n := by
    have h1 := Nat.mod_lt (U / WB ^ i) hV0
    have h2 : V < WB ^ n := by rw [← hV, ← hvn]; exact val_lt wv
    omega
   have s2 := midN0 gu un Cu.length i an (by omega) (by omega) (by omega)
   rw [show an - i = n by omega] at s2
   have hud5 : Vec w5.drew gu i (z5.take n) := by
    have := ((hu6.vec huL).drop i).take n
    rw [hz5t, Nat.zero_add] at this
    exact this
   have hv5r : Vec w5.drew gv 0 vs := hv0.kept hk6.drew hgvT
   have hlo6 : (over Cu 0 us5).length = Cu.length := over_length _ _ _ (by rw [hu6.len]; omega)
   have hP6 := Lib.hid (addVV_any w5.drew gu i (Cu.length - i) gu i (Cu.length - i) gv 0 cv n (over Cu 0 us5) (z5.take n) vs hu6.blk hud5 hv5r (by simp; omega) hvn (by rw [hlo6]; omega) (.inr rfl) (.inl h2) (ho6.words.take n) wv (by omega))
   have hu6' : VecOut w5.drew w5.drew gu 0 Cu us5 un := ⟨hu6.len, hu6.words, hu6.blk, Keeps.refl _ _⟩
   have w6 : IntKind.i64.wrap (an : Int) = (an : Int) := by rw [IntKind.wrap_i64]; omega
   have w6' := Lib.hid w6
   have x1' : (qh : Int) - 1 = (qt : Int) := by omega
   have x2' : IntKind.u64.wrap (qt : Int) = (qt : Int) := wrapW (by omega)
   have b9 : (an : Int) < un := by omega
   clear w6 hu6 hv5
   go_wp2_with fail
   have w6 := w6'.out
   go_still_tail 13, (by kernel_rfl)
   change wpList _ _ _ _ _ w5.drew
   clear w6
   go_wp2_with fail
   refine hP6.out.mono ?_
   rintro e w6 ⟨z6, c6, rfl, hc6, hv6, ho7⟩
   rw [hV] at hv6
   have hz6l : val WB z6 < WB ^ n := by have := val_lt ho7.words; rwa [ho7.len] at this
   obtain ⟨hz6, htop6⟩ := back_top (t := z5[n]'(by omega)) (c := c6) hz6l hRl (by rw [Nat.mul_add]; rw [← hn1, Nat.pow_succ] at hze; omega)
   have c7 : w6.cell? ⟨gu, an, none⟩ = some (.int .u64 ((z5[n]'(by omega) : Nat) : Int)) := by
    have h8 := (hu6'.within ho7 (by omega) huL).vec huL
    have hl8 : (over us5 i z6).length = un := by rw [over_length _ _ _ (by rw [hu6'.len, ho7.len]; omega), hu6'.len]
    have h9 := h8 an (by rw [hl8]; omega)
    rw [Nat.zero_add] at h9
    rw [h9]
    have e1 : (over us5 i z6)[an]? = us5[an]? := over_get_ge us5 i z6 an (by rw [ho7.len]; omega) (by rw [hu6'.len, ho7.len]; omega)
    have e2 : us5[an]? = some (z5[n]'(by omega)) := by
     rw [← hus5, over_get_in us i z5 an (by omega) (by omega) (by rw [hM.ul]; omega), show an - i = n by omega]
     exact List.getElem?_eq_getElem _
    rw [e2, List.getElem?_eq_getElem (by rw [hl8]; omega)] at e1
    rw [Option.some.inj e1]
   have f7 := ho7.room an
   have ho8 := ho7.snoc 0 WB_pos (by rw [hlo6]; omega)
   rw [han] at ho8
   have hu6 := hu6'.within ho8 (by omega) huL
   generalize hzt : z5[n]'(by omega) = zt at *
   have hwr : IntKind.u64.wrap ((zt : Int) + c6) = 0 := by
    rw [IntKind.wrap_u64]
    rw [WB_eq] at htop6
    omega
   have hz6n := ho7.len
   obtain ⟨us', hus'⟩ : ∃ us', over us5 i (z6 ++ [0]) = us' := ⟨_, rfl⟩
   rw [hus'] at hu6
   have hvu : val WB (us'.drop i) = U / WB ^ i % V := by
    rw [← hus', over_drop_val (by rw [hu6'.len]; simp; omega) (by rw [List.length_append, hz6n]; exact hz5d), val_snoc, hz6, Nat.mul_zero, Nat.add_zero]
   have htu6 : us'.take i = us0.take i := by
    rw [← hus', over_take (by rw [hu6'.len]; omega), ← hus5, over_take (by rw [hM.ul]; omega)]
    have := congrArg (·.take i) htk
    simpa [List.take_take] using this
   rw [show ((0 : Nat) : Int) = 0 from rfl] at ho8 hu6
   have hq6w := Blk.kept (w := w5.drew) hq6 ho7.keep h1
   have cq8 := hq6w.cell i (by rw [over_length _ _ _ hqn]; omega)
   have fq8 := hq6w.frozen i
   replace hk6 := hk6.trans ho8.keep.undrew (fun _ _ e => .inl e)
   replace hq6 := Blk.kept (w := w5.drew) hq6 ho8.keep h1
   replace hb6 := Blk.kept (w := w5.drew) hb6 ho8.keep hghu
   obtain ⟨wd, hwd⟩ : ∃ wd, w6.setCell ⟨gu, an, none⟩ (.int .u64 0) = wd := ⟨_, rfl⟩
   rw [hwd] at hk6 hq6 hb6 hu6 ho8
   obtain ⟨uj', huj'⟩ : ∃ x, us'[a1]? = some x := ⟨_, List.getElem?_eq_getElem (by rw [hu6.len]; omega)⟩
   have cu6 : wd.cell? ⟨gu, a1, none⟩ = some (.int .u64 (uj' : Int)) := by
    obtain ⟨h, e⟩ := List.getElem?_eq_some_iff.1 huj'
    have := (hu6.vec huL) a1 h
    rwa [Nat.zero_add, e] at this
   have hqs := hq6.set i qt
   have hcq : over Cq i (zs.drop i) = (over Cq (i + 1) (zs.drop (i + 1))).set i qt := by
    have := over_top Cq 0 zs i hi0 (by omega)
    obtain ⟨_, e⟩ := List.getElem?_eq_some_iff.1 hzi
    rw [Nat.zero_add, e] at this
    exact this.symm
   rw [← hcq] at hqs
   have cq6 := hq6.cell i (by rw [over_length _ _ _ hqn]; omega)
   have fq6 := hq6.frozen i
   have hu7 : Blk (wd.setCell ⟨gq, i, none⟩ (.int .u64 (qt : Int))) gu (over Cu 0 us') := by
    unfold Blk
    rw [blk_setCell_ne (fun e => h1 e.symm)]
    exact hu6.blk
   have hb7 : Blk (wd.setCell ⟨gq, i, none⟩ (.int .u64 (qt : Int))) gh (over Ch' 0 (z4 ++ [c4])) := by
    unfold Blk
    rw [blk_setCell_ne hghq]
    exact hb6
   have hM' : DivMem W0 (wd.setCell ⟨gq, i, none⟩ (.int .u64 (qt : Int))) gu gq gh un n i Cu Cq us' zs := ⟨hu6.len, hu6.words, hu7, hqs, ⟨_, hb7, by rw [hlo5]; omega⟩, hk6.setCell _ _ (fun _ => .inr (.inl rfl))⟩
   have hM' := Lib.hid hM'
   have hfin := Lib.hid (show i ≤ m ∧ val WB (us'.drop i) = U / WB ^ i % V ∧ us'.take i = us0.take i ∧ (i = 0 ∨ us'[i - 1 + n]? = some uj') from ⟨by omega, hvu, htu6, (Nat.eq_zero_or_pos i).imp id (fun h => by rw [show i - 1 + n = a1 by omega]; exact huj')⟩)
   have hne8 : a1 ≠ an := by omega
   have c8 : w6.cell? ⟨gu, a1, none⟩ = some (.int .u64 (uj' : Int)) := by
    rw [← hwd, World.cell?_setCell_other _ _ _ _ (show (⟨gu, an, none⟩ : Addr) ≠ ⟨gu, a1, none⟩ by simp [hne8.symm])] at cu6
    exact cu6
   rw [← hwd] at hM'
   clear hqt hR hwd hu6 hvu htu6 huj' hu7 hb7 hqs hcq hzi hi0 cq6 fq6 cu6 hq6 hb6 hk6 ho8 hq6w
   go_wp2_with fail
   refine ⟨?_, ?measure⟩
   unfold DbI
   (repeat apply Exists.intro)
   refine ⟨?rel, rfl⟩
   case rel => exact ⟨us', _, i, uj', rfl, rfl, hM'.out, .inr ⟨by omega, hfin.out⟩⟩
   case measure => simp [intOf]
end Go.Proofs.YtgamldefngehlaaGreatDoor
