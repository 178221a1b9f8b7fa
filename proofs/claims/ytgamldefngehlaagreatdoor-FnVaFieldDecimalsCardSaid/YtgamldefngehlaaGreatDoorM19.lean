/- The greatest common divisor of two numbers, by Lehmer's steps. -/
import Derived.Test.YtgamldefngehlaaGreatDoorM10
import Derived.Test.YtgamldefngehlaaGreatDoorM11
import Derived.Test.YtgamldefngehlaaGreatDoorM16
import Derived.Test.YtgamldefngehlaaGreatDoorM17
import Derived.Test.YtgamldefngehlaaGreatDoorM18
import Derived.Deep.LoopGhost
import Derived.Deep.DeepCutAuto
set_option linter.unusedVariables false
set_option linter.unusedSimpArgs false
namespace Go.Proofs.YtgamldefngehlaaGreatDoor
open Go.RowKit
open Go.Proofs.YtgamldefngehlaaGreatDoorW.PrintLast
structure Pool (w0 w : World) (gA gB gq gr a b : Nat) (av bv : Value) : Prop where
 A : IntAt w w0.heap.size gA 0 false av a
 B : IntAt w w0.heap.size gB 0 false bv b
 q : IntAt w w0.heap.size gq 0 false (.slice none 0 0) 0
 r : IntAt w w0.heap.size gr 0 false (.slice none 0 0) 0
 ge : w0.heap.size ≤ gA ∧ w0.heap.size ≤ gB ∧ w0.heap.size ≤ gq ∧ w0.heap.size ≤ gr
 ne : gA ≠ gB ∧ gA ≠ gq ∧ gA ≠ gr ∧ gB ≠ gq ∧ gB ≠ gr ∧ gq ≠ gr
 ap : ∀ k, av.ownBlock = some k → bv.ownBlock ≠ some k
 keep : Keeps (fun _ => False) w0 w
theorem Pool.drewN {w0 w : World} {gA gB gq gr a b : Nat} {av bv : Value} (n : Nat) (h : Pool w0 w gA gB gq gr a b av bv) : Pool w0 (w.drewN n) gA gB gq gr a b av bv :=
 ⟨⟨h.A.known, h.A.neg, h.A.abs, h.A.nat⟩, ⟨h.B.known, h.B.neg, h.B.abs, h.B.nat⟩, ⟨h.q.known, h.q.neg, h.q.abs, h.q.nat⟩, ⟨h.r.known, h.r.neg, h.r.abs, h.r.nat⟩, h.ge, h.ne, h.ap, h.keep.drewN n⟩
theorem Pool.quad {w0 w : World} {gA gB gq gr a b : Nat} {av bv : Value} (h : Pool w0 w gA gB gq gr a b av bv) : Quad w0 w (q4 gA gB gq gr) (q4 false false false false) (q4 av bv (.slice none 0 0) (.slice none 0 0)) (q4 a b 0 0) := by
 obtain ⟨e1, e2, e3, e4⟩ := h.ge
 obtain ⟨n1, n2, n3, n4, n5, n6⟩ := h.ne
 refine ⟨fun i => ?_, fun i => ?_, fun i j hij => ?_, fun i j hij k h1 h2 => ?_, h.keep⟩
 ·match i with
  | 0 => exact h.A
  | 1 => exact h.B
  | 2 => exact h.q
  | 3 => exact h.r
 ·match i with
  | 0 => exact e1
  | 1 => exact e2
  | 2 => exact e3
  | 3 => exact e4
 ·match i, j with
  | 0, 0 => exact absurd rfl hij
  | 0, 1 => exact n1
  | 0, 2 => exact n2
  | 0, 3 => exact n3
  | 1, 0 => exact n1.symm
  | 1, 1 => exact absurd rfl hij
  | 1, 2 => exact n4
  | 1, 3 => exact n5
  | 2, 0 => exact n2.symm
  | 2, 1 => exact n4.symm
  | 2, 2 => exact absurd rfl hij
  | 2, 3 => exact n6
  | 3, 0 => exact n3.symm
  | 3, 1 => exact n5.symm
  | 3, 2 => exact n6.symm
  | 3, 3 => exact absurd rfl hij
 ·match i, j with
  | 0, 0 => exact hij rfl
  | 0, 1 => exact h.ap k h1 h2
  | 1, 0 => exact h.ap k h2 h1
  | 1, 1 => exact hij rfl
  | 0, 2 | 1, 2 | 3, 2 => simp [q4, Value.ownBlock] at h2
  | 0, 3 | 1, 3 | 2, 3 => simp [q4, Value.ownBlock] at h2
  | 2, 0 | 2, 1 | 2, 2 => simp [q4, Value.ownBlock] at h1
  | 3, 0 | 3, 1 | 3, 3 => simp [q4, Value.ownBlock] at h1
def GcdAt (w wr : World) (gq g1 g2 g3 c d G : Nat) : Prop := ∃ (nq nr : Nat) (sq sr : Bool) (cv dv qv rv : Value), Quad w wr (q4 g1 g2 gq g3) (q4 false false sq sr) (q4 cv dv qv rv) (q4 c d nq nr) ∧ c ≠ 0 ∧ d ≤ c ∧ (digs WB d).length ≤ 4 ∧ (digs WB c).length ≤ 900 ∧ Nat.gcd c d = G
set_option maxRecDepth 100000 in
set_option maxHeartbeats 2000000 in
theorem gcd_any (w : World) (base bz gz nz gx ox gy oy a b : Nat) (sz : Bool) (zv xv yv : Value) (hz : IntAt w bz gz 0 sz zv nz) (hx : IntAt w base gx ox false xv a) (hy : IntAt w base gy oy false yv b) (hB : bz ≤ w.heap.size) (ha : a ≠ 0) (hb : b ≠ 0) (hs : (digs WB a).length ≤ 4 ∨ (digs WB b).length ≤ 4) (hla : (digs WB a).length ≤ 900) (hlb : (digs WB b).length ≤ 900) (hg : Thr w) (hGL : GL ≤ w.heap.size) :
  Calls Tryz.prog 207 #[.pointer (some ⟨gz, 0, none⟩), .pointer none, .pointer none, .pointer (some ⟨gx, ox, none⟩), .pointer (some ⟨gy, oy, none⟩)] w fun e w' => ∃ v', e = .returned (.pointer (some ⟨gz, 0, none⟩)) ∧ IntOut w w' bz gz 0 zv false v' (Nat.gcd a b) := by
 have hBz := hB
 have k0 := (Keeps.refl (fun _ => False) w).alloc (.cells #[.bool false, .slice none 0 0] 139)
 have hA := intAbs_any (w.alloc (.cells #[.bool false, .slice none 0 0] 139)) w.heap.size base w.heap.size 0 gx ox 0 a false false (.slice none 0 0) xv (newAt w _) (hx.kept k0 (fun h => h) (fun _ _ h => h)) (by have := hx.known.lt; simp only [ne_eq, Addr.mk.injEq, not_and]; intro e; omega) k0.size (by omega)
 have hA := Lib.hid hA
 go_enter Tryz.func207, Tryz.ntmps207
 go_wp2_with fail
 refine hA.out.mono ?_
 rintro e w1 ⟨av, rfl, hoA⟩
 have kA : Keeps (fun _ => False) w w1 := hoA.fresh k0 (Nat.le_refl _) (fun _ h => by simp [Value.ownBlock] at h)
 have hgA := hoA.at_.known.lt
 have k1 := kA.alloc (.cells #[.bool false, .slice none 0 0] 139)
 have hB' := intAbs_any (w1.alloc (.cells #[.bool false, .slice none 0 0] 139)) w.heap.size base w1.heap.size 0 gy oy 0 b false false (.slice none 0 0) yv (newAt w1 _) (hy.kept k1 (fun h => h) (fun _ _ h => h)) (by have := hy.known.lt; have := kA.size; simp only [ne_eq, Addr.mk.injEq, not_and]; intro e; omega) k1.size (by omega)
 have hB' := Lib.hid hB'
 go_wp2_with fail
 refine hB'.out.mono ?_
 rintro e w2 ⟨bv, rfl, hoB⟩
 have kB : Keeps (fun _ => False) w1 w2 := hoB.fresh ((Keeps.refl _ w1).alloc _) (Nat.le_refl _) (fun _ h => by simp [Value.ownBlock] at h)
 have hP : Pool w ((w2.alloc (.cells #[.bool false, .slice none 0 0] 139)).alloc (.cells #[.bool false, .slice none 0 0] 139)) w.heap.size w1.heap.size w2.heap.size (w2.heap.size + 1) a b av bv := by
  have kq := (Keeps.refl (fun _ => False) w2).alloc (.cells #[.bool false, .slice none 0 0] 139)
  have kr := kq.alloc (.cells #[.bool false, .slice none 0 0] 139)
  have s1 := hoB.at_.known.lt
  have s2 := kB.size
  have hq := newAt w2 w.heap.size
  have hr := newAt (w2.alloc (.cells #[.bool false, .slice none 0 0] 139)) w.heap.size
  simp only [World.size_alloc] at hr
  refine ⟨hoA.at_.kept (kB.trans kr (fun _ _ h => h)) (fun h => h) (fun _ _ h => h), hoB.at_.kept kr (fun h => h) (fun _ _ h => h), hq.kept ((Keeps.refl (fun _ => False) _).alloc _) (fun h => h) (fun _ _ h => h), hr, ⟨Nat.le_refl _, by omega, by omega, by omega⟩, ⟨by omega, by omega, by omega, by omega, by omega, by omega⟩, fun k h1 h2 => ?_, (kA.trans kB (fun _ _ h => h)).trans kr (fun _ _ h => h)⟩
  have := (NatRow.lt hoA.at_.nat k h1).2
  rcases hoB.own k h2 with h3 | h3
  ·simp [Value.ownBlock] at h3
  ·simp at h3; omega
 have hzk : w.heap.size ≤ w2.heap.size := Nat.le_trans kA.size kB.size
 clear hoA hoB kA kB k0 k1 hA hB' hgA
 go_wp2_with fail
 generalize hW : (w2.alloc (.cells #[.bool false, .slice none 0 0] 139)).alloc (.cells #[.bool false, .slice none 0 0] 139) = w4 at *
 clear hW
 generalize hgB : w1.heap.size = gB at *
 generalize hgq : w2.heap.size = gq at *
 generalize hgr : gq + 1 = gr at *
 clear hgB hgq hgr
 have cA : w4.drew.cell? ⟨w.heap.size, 1, none⟩ = some av := hP.A.abs
 have cB : w4.drew.cell? ⟨gB, 1, none⟩ = some bv := hP.B.abs
 have hC := cmp_any (w4.drewN 1) _ _ av bv a b hP.A.nat hP.B.nat (by omega) (by omega)
 have hPq := Lib.hid (fun (q : Nat) => (hP.drewN q).quad)
 generalize hgA : w.heap.size = gA at *
 clear hP
 have hC := Lib.hid hC
 have hgx := hx.known.lt
 go_still_tail 8, (by kernel_rfl)
 change wpList _ _ _ _ _ (w4.drewN 1)
 go_wp2_with fail
 refine hC.out.mono ?_
 rintro e w5 ⟨rfl, q, hq⟩
 have hQ5 : Quad w w5 (q4 gA gB gq gr) (q4 false false false false) (q4 av bv (.slice none 0 0) (.slice none 0 0)) (q4 a b 0 0) := by rw [hq]; exact (hPq.out 1).drewN q
 have hQ5 := Lib.hid hQ5
 clear hq hC hPq cA cB
 go_upto_if 60 with fail
 go_cut [11, 12, 13, 14] (fun A B Ua Ub  wr => ∃ (g1 g2 c d : Nat), A = .pointer (some ⟨g1, 0, none⟩) ∧ B = .pointer (some ⟨g2, 0, none⟩) ∧ Ua = .pointer none ∧ Ub = .pointer none ∧ GcdAt w wr gq g1 g2 gr c d (Nat.gcd a b))
 case first =>
  by_cases hab : a < b
  ·have t0 : cmpI a b < 0 := by rw [cmpI_lt hab]; decide
   go_wp2_with fail
   go_meet
   exact ⟨gB, gA, b, a, rfl, rfl, rfl, rfl, _, _, _, _, _, _, _, _, hQ5.out.swap, hb, Nat.le_of_lt hab, by rcases hs with h | h; exact h; exact Nat.le_trans (digs_length_mono WB_one (Nat.le_of_lt hab)) h, hlb, Nat.gcd_comm _ _⟩
  ·have t0 : ¬ cmpI a b < 0 := by unfold cmpI; rw [if_neg hab]; split <;> omega
   go_wp2_with fail
   go_meet
   exact ⟨gA, gB, a, b, rfl, rfl, rfl, rfl, _, _, _, _, _, _, _, _, hQ5.out, ha, by omega, by rcases hs with h | h; exact Nat.le_trans (digs_length_mono WB_one (by omega)) h; exact h, hla, rfl⟩
 case rest =>
  obtain ⟨g1, g2, c, d, rfl, rfl, rfl, rfl, hG⟩ := hcut
  clear hQ5
  go_wp2_with fail
  go_loopg [11, 12, 13, 14, 17] d (fun k A B Ua Ub r wr => ∃ (g1 g2 g3 c d : Nat), k = d ∧ A = .pointer (some ⟨g1, 0, none⟩) ∧ B = .pointer (some ⟨g2, 0, none⟩) ∧ Ua = .pointer none ∧ Ub = .pointer none ∧ r = .pointer (some ⟨g3, 0, none⟩) ∧ GcdAt w wr gq g1 g2 g3 c d (Nat.gcd a b))
  case atStart => exact ⟨g1, g2, gr, c, d, rfl, rfl, rfl, rfl, rfl, rfl, hG⟩
  case round =>
   clear hG
   obtain ⟨g1, g2, g3, c, d, hkd, rfl, rfl, rfl, rfl, rfl, nq, nr, sq, sr, cv, dv, qv, rv, hP, hc0, hdc, hd4, hc9, hG⟩ := hrel
   obtain ⟨wo, hwo⟩ : ∃ x, x = wr := ⟨_, rfl⟩
   subst hwo
   have hPA : IntAt wo w.heap.size g1 0 false cv c := hP.at_ 0
   have hPB : IntAt wo w.heap.size g2 0 false dv d := hP.at_ 1
   have hge1 : w.heap.size ≤ g1 := hP.ge 0
   have hge2 : w.heap.size ≤ g2 := hP.ge 1
   have hgT : Thr wo := hg.kept hP.keep (fun _ _ h => h)
   obtain ⟨pc, kc, rfl⟩ := NatRow.form hPA.nat
   obtain ⟨pd, kd, rfl⟩ := NatRow.form hPB.nat
   have cA := hPA.abs
   have cB := hPB.abs
   rw [Nat.zero_add] at cA cB
   by_cases hdW : d < WB
   ·by_cases hd0 : d = 0
    ·rw [hd0, digs_zero] at cB
     simp only [List.length_nil] at cB
     rw [hd0, Nat.gcd_zero_right] at hG
     have hz5 := hz.kept hP.keep (fun h => h) (fun _ _ h => h)
     have kP := hP.keep
     have cx5 := kP.cellS hx.neg (fun h => h)
     have hS := Lib.hid (intSet_any wo bz w.heap.size gz 0 g1 0 nz c sz false zv _ hz5 hPA (by have := hz.known.lt; simp only [ne_eq, Addr.mk.injEq, not_and]; intro e; omega) (Nat.le_trans (by omega) kP.size) (by omega))
     have hfin := Lib.hid (fun (w9 : World) (v' : Value) (h9 : IntOut wo w9 bz gz 0 zv false v' c) => h9.after kP hz.known.lt)
     have hGH := Lib.hid hG
     clear hG hz5
     go_wp2_with fail
     refine hS.out.mono ?_
     rintro e w9 ⟨v', rfl, h9⟩
     have h9 := Lib.hid (hfin.out w9 v' h9)
     go_wp2_with fail
     go_ret
     refine ⟨v', rfl, ?_⟩
     rw [← hGH.out]
     exact h9.out
    have hd1 : (digs WB d).length = 1 := by rw [digs_small WB_one hd0 hdW]; rfl
    rw [hd1] at cB
    have kP := hP.keep
    by_cases hcW : c < WB
    ·have hc1 : (digs WB c).length = 1 := by rw [digs_small WB_one hc0 hcW]; rfl
     rw [hc1] at cA
     go_wp2_with fail
     have hrX := hPA.nat
     have hrY := hPB.nat
     unfold NatAt at hrX hrY
     rw [digs_small WB_one hc0 hcW] at hrX
     rw [digs_small WB_one hd0 hdW] at hrY
     have c1 := hPA.abs
     have c2 := hPB.abs
     rw [Nat.zero_add] at c1 c2
     rw [digs_small WB_one hc0 hcW] at c1
     rw [digs_small WB_one hd0 hdW] at c2
     obtain ⟨ga, Ca, hva, hga, hCa, hwa, hta, h0a, hla', haC⟩ := hrX.mk' (by simp)
     obtain ⟨gb, Cb, hvb, hgb, hCb, hwb, htb, h0b, hlb', hbC⟩ := hrY.mk' (by simp)
     have c3 := hCa.row (xs := [c]) hta (by simpa using haC) 0 (by simp)
     have c4 := hCb.row (xs := [d]) htb (by simpa using hbC) 0 (by simp)
     simp only [List.length_cons, List.length_nil, Nat.zero_add, List.getElem_cons_zero] at hva hvb c1 c2 c3 c4 haC hbC
     rw [hva] at c1
     rw [hvb] at c2
     have hX6 := hPA
     rw [digs_small WB_one hc0 hcW] at hX6
     simp only [List.length_cons, List.length_nil, Nat.zero_add] at hX6
     rw [hva] at hX6
     have hX6 := Lib.hid hX6
     go_wp2_with fail
     refine start_ (n := 14) (S := fun W => W.cell? ⟨g1, 1, none⟩ = some (.slice (some ⟨ga, 0, none⟩) 1 Ca.length) ∧ W.cell? ⟨ga, 0, none⟩ = some (.int .u64 (c : Int)) ∧ W.cell? ⟨g2, 1, none⟩ = some (.slice (some ⟨gb, 0, none⟩) 1 Cb.length) ∧ W.cell? ⟨gb, 0, none⟩ = some (.int .u64 (d : Int))) (ds := []) z19 (by kernel_rfl) rfl rfl ⟨c1, c3, c2, c4⟩ (fun hHeld => ?_)
     refine stq 0 149 z20 ?_
     refine stq 1 150 z21 ?_
     refine stq 2 151 z22 ?_
     refine take_ (i := 3) (N := some 152) (v := ?_) (a' := ?_) z23 rfl rfl (by kernel_rfl) (fun _ _ _ h => h) (Or.inl ⟨by rfl, ?_⟩) hHeld ?_ ?_
     rotate_left
     ·rintro w' ⟨s0, s1, s2, s3⟩; go_simp; try with_reducible rfl
     rotate_left
     ·simp only [Act.put, sA, sB, sC]; rfl
     refine stq 4 153 z24 ?_
     refine take_ (i := 5) (N := some 154) (v := ?_) (a' := ?_) z25 rfl rfl (by kernel_rfl) (fun _ _ _ h => h) (Or.inl ⟨by rfl, ?_⟩) hHeld ?_ ?_
     rotate_left
     ·rintro w' ⟨s0, s1, s2, s3⟩; go_simp; try with_reducible rfl
     rotate_left
     ·simp only [Act.put, sA, sB, sC]; rfl
     refine stq 6 155 z26 ?_
     refine stq 7 156 z27 ?_
     refine stq 8 157 z28 ?_
     refine take_ (i := 9) (N := some 158) (v := ?_) (a' := ?_) z29 rfl rfl (by kernel_rfl) (fun _ _ _ h => h) (Or.inl ⟨by rfl, ?_⟩) hHeld ?_ ?_
     rotate_left
     ·rintro w' ⟨s0, s1, s2, s3⟩; go_simp; try with_reducible rfl
     rotate_left
     ·simp only [Act.put, sA, sB, sC]; rfl
     refine stq 10 159 z30 ?_
     refine take_ (i := 11) (N := some 160) (v := ?_) (a' := ?_) z31 rfl rfl (by kernel_rfl) (fun _ _ _ h => h) (Or.inl ⟨by rfl, ?_⟩) hHeld ?_ ?_
     rotate_left
     ·rintro w' ⟨s0, s1, s2, s3⟩; go_simp; try with_reducible rfl
     rotate_left
     ·simp only [Act.put, sA, sB, sC]; rfl
     refine stq 12 23 z32 ?_
     refine stq 13 24 z33 ?_
     refine done_ (by kernel_rfl) ?_
     go_wp2_with fail
     go_loopw [23, 24] (fun x y wx => ∃ p r n : Nat, x = .int .u64 p ∧ y = .int .u64 r ∧ p ≠ 0 ∧ p < WB ∧ r < WB ∧ Nat.gcd p r = Nat.gcd a b ∧ wx = wo.drewN n) (fun _ y _ => (intOf y).toNat)
     case atStart => exact ⟨c, d, 1, rfl, rfl, hc0, hcW, hdW, hG, rfl⟩
     case round =>
      obtain ⟨p, r, n, rfl, rfl, hp0, hpW, hrW, hG', hwx⟩ := hrel
      by_cases hr0 : r = 0
      ·subst hr0
       rw [Nat.gcd_zero_right] at hG'
       have hCx : Blk (wo.drewN n) ga Ca := hCa
       have hX7 := hX6.out.drewN n
       have c1d : (wo.drewN n).cell? ⟨g1, 1, none⟩ = some (.slice (some ⟨ga, 0, none⟩) 1 Ca.length) := c1
       have kx : Keeps (fun _ => False) w (wo.drewN n) := (kP).drewN n
       rw [← hwx] at hCx hX7 c1d kx
       clear hwx
       have hfa := hCx.frozen 0
       have hca := hCx.cell 0 (by omega)
       have hX7 := hX7.word (p := p) hga hCx hwa (by omega) hla' hp0 hpW
       have k7 := kx.word hga (.int .u64 (p : Int))
       have hz7 := hz.kept k7 (fun h => h) (fun _ _ h => h)
       have cx7 := k7.cellS hx.neg (fun h => h)
       have cxr := kx.cellS hx.neg (fun h => h)
       have hne1 : gx ≠ ga := by have := hx.known.lt; omega
       have hne2 : ga ≠ gx := hne1.symm
       have hge : w.heap.size ≤ g1 := hge1
       have hS := intSet_any (wr.setCell ⟨ga, 0, none⟩ (.int .u64 (p : Int))) bz w.heap.size gz 0 g1 0 nz p sz false zv _ hz7 hX7 (by have := hz.known.lt; simp only [ne_eq, Addr.mk.injEq, not_and]; intro e; omega) (Nat.le_trans (by omega) k7.size) (by rw [digs_small WB_one hp0 hpW]; simp)
       have hS := Lib.hid hS
       have hfin := Lib.hid (fun (w9 : World) (v' : Value) (h9 : IntOut (wr.setCell ⟨ga, 0, none⟩ (.int .u64 (p : Int))) w9 bz gz 0 zv false v' p) => h9.after k7 hz.known.lt)
       clear hX7 hz7 kx k7
       have hGH := Lib.hid hG'
       clear hG'
       go_wp2_with fail
       refine hS.out.mono ?_
       rintro e w9 ⟨v', rfl, h9⟩
       have h9 := Lib.hid (hfin.out w9 v' h9)
       go_wp2_with fail
       go_ret
       refine ⟨v', rfl, ?_⟩
       rw [← hGH.out]
       exact h9.out
      ·have t1 : ((r : Int) == 0) = false := by simp; omega
       have t2 : ¬ (r : Int) = 0 := by omega
       have hml := Nat.mod_lt p (show r > 0 by omega)
       have e1 : Int.tmod (p : Int) (r : Int) = ((p % r : Nat) : Int) := rfl
       have hg2 : Nat.gcd r (p % r) = Nat.gcd a b := by rw [← hG', Nat.gcd_comm p r, Nat.gcd_rec r p, Nat.gcd_comm]
       have hwx := Lib.hid hwx
       go_wp2_with fail
       go_region
       all_goals go_wp2_with fail
       all_goals go_roundw
       case rel => exact ⟨r, p % r, n + 1, rfl, by first | rfl | simp, hr0, hrW, by omega, hg2, by first | rfl | (rw [hwx.out]; rfl)⟩
       case measure => simp [intOf]; omega
    have hc2 : (1 : Int) < (digs WB c).length := by
     have : ¬ (digs WB c).length ≤ 1 := fun h => hcW (by have := (digs_length_le WB_one).1 h; rwa [Nat.pow_one] at this)
     omega
    have hE := Lib.hid (euclidQ_any w wo g1 g2 gq g3 c d nq nr sq sr _ _ _ _ hP hc9 hd0 (.inl hdW) hgT (by rw [hgA]; exact hGL))
    clear hP
    go_wp2_with fail
    refine hE.out.mono ?_
    rintro e w5 ⟨rfl, nq', sq', qv', rv', hQ⟩
    have hB5 : IntAt w5 w.heap.size g2 0 false (.slice pd (digs WB d).length kd) d := hQ.at_ 0
    have hR5 : IntAt w5 w.heap.size g3 0 false rv' (c % d) := hQ.at_ 1
    have kW5 := hQ.keep
    have hml := Nat.mod_lt c (show d > 0 by omega)
    have hG5 : Nat.gcd d (c % d) = Nat.gcd a b := by rw [← hG, Nat.gcd_comm c d, Nat.gcd_rec d c, Nat.gcd_comm]
    clear hQ
    generalize hm : c % d = m at *
    obtain ⟨pr, kr, rfl⟩ := NatRow.form hR5.nat
    have cA5 := hB5.abs
    have cB5 := hR5.abs
    rw [hd1] at cA5
    rw [Nat.zero_add] at cA5 cB5
    have cx5 := kW5.cellS hx.neg (fun h => h)
    by_cases hm0 : m = 0
    ·have hm1 : (digs WB m).length = 0 := by rw [hm0, digs_zero]; rfl
     rw [hm1] at cB5
     rw [hm0, Nat.gcd_zero_right] at hG5
     have hz5 := hz.kept kW5 (fun h => h) (fun _ _ h => h)
     have hS := Lib.hid (intSet_any w5 bz w.heap.size gz 0 g2 0 nz d sz false zv _ hz5 hB5 (by have := hz.known.lt; simp only [ne_eq, Addr.mk.injEq, not_and]; intro e; omega) (Nat.le_trans (by omega) kW5.size) (by omega))
     have hfin := Lib.hid (fun (w9 : World) (v' : Value) (h9 : IntOut w5 w9 bz gz 0 zv false v' d) => h9.after kW5 hz.known.lt)
     have hGH := Lib.hid hG5
     clear hG5 hz5
     go_wp2_with fail
     refine hS.out.mono ?_
     rintro e w9 ⟨v', rfl, h9⟩
     have h9 := Lib.hid (hfin.out w9 v' h9)
     go_wp2_with fail
     go_ret
     refine ⟨v', rfl, ?_⟩
     rw [← hGH.out]
     exact h9.out
    have hm1 : (digs WB m).length = 1 := by rw [digs_small WB_one hm0 (by omega)]; rfl
    rw [hm1] at cB5
    have hmW : m < WB := by omega
    go_wp2_with fail
    have hrX := hB5.nat
    have hrY := hR5.nat
    unfold NatAt at hrX hrY
    rw [digs_small WB_one hd0 hdW] at hrX
    rw [digs_small WB_one hm0 hmW] at hrY
    have c1 := hB5.abs
    have c2 := hR5.abs
    rw [Nat.zero_add] at c1 c2
    rw [digs_small WB_one hd0 hdW] at c1
    rw [digs_small WB_one hm0 hmW] at c2
    obtain ⟨ga, Ca, hva, hga, hCa, hwa, hta, h0a, hla', haC⟩ := hrX.mk' (by simp)
    obtain ⟨gb, Cb, hvb, hgb, hCb, hwb, htb, h0b, hlb', hbC⟩ := hrY.mk' (by simp)
    have c3 := hCa.row (xs := [d]) hta (by simpa using haC) 0 (by simp)
    have c4 := hCb.row (xs := [m]) htb (by simpa using hbC) 0 (by simp)
    simp only [List.length_cons, List.length_nil, Nat.zero_add, List.getElem_cons_zero] at hva hvb c1 c2 c3 c4 haC hbC
    rw [hva] at c1
    rw [hvb] at c2
    have hX6 := hB5
    rw [digs_small WB_one hd0 hdW] at hX6
    simp only [List.length_cons, List.length_nil, Nat.zero_add] at hX6
    rw [hva] at hX6
    have hX6 := Lib.hid hX6
    go_wp2_with fail
    refine start_ (n := 14) (S := fun W => W.cell? ⟨g2, 1, none⟩ = some (.slice (some ⟨ga, 0, none⟩) 1 Ca.length) ∧ W.cell? ⟨ga, 0, none⟩ = some (.int .u64 (d : Int)) ∧ W.cell? ⟨g3, 1, none⟩ = some (.slice (some ⟨gb, 0, none⟩) 1 Cb.length) ∧ W.cell? ⟨gb, 0, none⟩ = some (.int .u64 (m : Int))) (ds := []) z19 (by kernel_rfl) rfl rfl ⟨c1, c3, c2, c4⟩ (fun hHeld => ?_)
    refine stq 0 149 z20 ?_
    refine stq 1 150 z21 ?_
    refine stq 2 151 z22 ?_
    refine take_ (i := 3) (N := some 152) (v := ?_) (a' := ?_) z23 rfl rfl (by kernel_rfl) (fun _ _ _ h => h) (Or.inl ⟨by rfl, ?_⟩) hHeld ?_ ?_
    rotate_left
    ·rintro w' ⟨s0, s1, s2, s3⟩; go_simp; try with_reducible rfl
    rotate_left
    ·simp only [Act.put, sA, sB, sC]; rfl
    refine stq 4 153 z24 ?_
    refine take_ (i := 5) (N := some 154) (v := ?_) (a' := ?_) z25 rfl rfl (by kernel_rfl) (fun _ _ _ h => h) (Or.inl ⟨by rfl, ?_⟩) hHeld ?_ ?_
    rotate_left
    ·rintro w' ⟨s0, s1, s2, s3⟩; go_simp; try with_reducible rfl
    rotate_left
    ·simp only [Act.put, sA, sB, sC]; rfl
    refine stq 6 155 z26 ?_
    refine stq 7 156 z27 ?_
    refine stq 8 157 z28 ?_
    refine take_ (i := 9) (N := some 158) (v := ?_) (a' := ?_) z29 rfl rfl (by kernel_rfl) (fun _ _ _ h => h) (Or.inl ⟨by rfl, ?_⟩) hHeld ?_ ?_
    rotate_left
    ·rintro w' ⟨s0, s1, s2, s3⟩; go_simp; try with_reducible rfl
    rotate_left
    ·simp only [Act.put, sA, sB, sC]; rfl
    refine stq 10 159 z30 ?_
    refine take_ (i := 11) (N := some 160) (v := ?_) (a' := ?_) z31 rfl rfl (by kernel_rfl) (fun _ _ _ h => h) (Or.inl ⟨by rfl, ?_⟩) hHeld ?_ ?_
    rotate_left
    ·rintro w' ⟨s0, s1, s2, s3⟩; go_simp; try with_reducible rfl
    rotate_left
    ·simp only [Act.put, sA, sB, sC]; rfl
    refine stq 12 23 z32 ?_
    refine stq 13 24 z33 ?_
    refine done_ (by kernel_rfl) ?_
    go_wp2_with fail
    go_loopw [23, 24] (fun x y wx => ∃ p r n : Nat, x = .int .u64 p ∧ y = .int .u64 r ∧ p ≠ 0 ∧ p < WB ∧ r < WB ∧ Nat.gcd p r = Nat.gcd a b ∧ wx = w5.drewN n) (fun _ y _ => (intOf y).toNat)
    case atStart => exact ⟨d, m, 1, rfl, rfl, hd0, hdW, hmW, hG5, rfl⟩
    case round =>
     obtain ⟨p, r, n, rfl, rfl, hp0, hpW, hrW, hG', hwx⟩ := hrel
     by_cases hr0 : r = 0
     ·subst hr0
      rw [Nat.gcd_zero_right] at hG'
      have hCx : Blk (w5.drewN n) ga Ca := hCa
      have hX7 := hX6.out.drewN n
      have c1d : (w5.drewN n).cell? ⟨g2, 1, none⟩ = some (.slice (some ⟨ga, 0, none⟩) 1 Ca.length) := c1
      have kx : Keeps (fun _ => False) w (w5.drewN n) := (kW5).drewN n
      rw [← hwx] at hCx hX7 c1d kx
      clear hwx
      have hfa := hCx.frozen 0
      have hca := hCx.cell 0 (by omega)
      have hX7 := hX7.word (p := p) hga hCx hwa (by omega) hla' hp0 hpW
      have k7 := kx.word hga (.int .u64 (p : Int))
      have hz7 := hz.kept k7 (fun h => h) (fun _ _ h => h)
      have cx7 := k7.cellS hx.neg (fun h => h)
      have cxr := kx.cellS hx.neg (fun h => h)
      have hne1 : gx ≠ ga := by have := hx.known.lt; omega
      have hne2 : ga ≠ gx := hne1.symm
      have hge : w.heap.size ≤ g2 := hge2
      have hS := intSet_any (wr.setCell ⟨ga, 0, none⟩ (.int .u64 (p : Int))) bz w.heap.size gz 0 g2 0 nz p sz false zv _ hz7 hX7 (by have := hz.known.lt; simp only [ne_eq, Addr.mk.injEq, not_and]; intro e; omega) (Nat.le_trans (by omega) k7.size) (by rw [digs_small WB_one hp0 hpW]; simp)
      have hS := Lib.hid hS
      have hfin := Lib.hid (fun (w9 : World) (v' : Value) (h9 : IntOut (wr.setCell ⟨ga, 0, none⟩ (.int .u64 (p : Int))) w9 bz gz 0 zv false v' p) => h9.after k7 hz.known.lt)
      clear hX7 hz7 kx k7
      have hGH := Lib.hid hG'
      clear hG'
      go_wp2_with fail
      refine hS.out.mono ?_
      rintro e w9 ⟨v', rfl, h9⟩
      have h9 := Lib.hid (hfin.out w9 v' h9)
      go_wp2_with fail
      go_ret
      refine ⟨v', rfl, ?_⟩
      rw [← hGH.out]
      exact h9.out
     ·have t1 : ((r : Int) == 0) = false := by simp; omega
      have t2 : ¬ (r : Int) = 0 := by omega
      have hml := Nat.mod_lt p (show r > 0 by omega)
      have e1 : Int.tmod (p : Int) (r : Int) = ((p % r : Nat) : Int) := rfl
      have hg2 : Nat.gcd r (p % r) = Nat.gcd a b := by rw [← hG', Nat.gcd_comm p r, Nat.gcd_rec r p, Nat.gcd_comm]
      have hwx := Lib.hid hwx
      go_wp2_with fail
      go_region
      all_goals go_wp2_with fail
      all_goals go_roundw
      case rel => exact ⟨r, p % r, n + 1, rfl, by first | rfl | simp, hr0, hrW, by omega, hg2, by first | rfl | (rw [hwx.out]; rfl)⟩
      case measure => simp [intOf]; omega
   ·have hd2 : (1 : Int) < (digs WB d).length := by
     have : ¬ (digs WB d).length ≤ 1 := fun h => hdW (by have := (digs_length_le WB_one).1 h; rwa [Nat.pow_one] at this)
     omega
    have hS := Lib.hid (lehSim_any wo w.heap.size g1 g2 c d _ _ hPA hPB hdc (by omega) hc9)
    have hP' := Lib.hid hP
    have hkd' := Lib.hid hkd
    have hGH := Lib.hid hG
    clear hP hPA hPB hkd hG
    go_wp2_with fail
    refine hS.out.mono ?_
    rintro e w5 ⟨u0, u1, v0, v1, ev, n5, rfl, ⟨b0, b1, b2, b3⟩, hL, hw5⟩
    have hP5 := hP'.out.drewN n5
    rw [← hw5] at hP5
    have hgT5 : Thr w5 := hg.kept hP5.keep (fun _ _ h => h)
    clear hw5
    by_cases hv0 : v0 = 0
    ·subst hv0
     have hE := Lib.hid (euclidQ_any w w5 g1 g2 gq g3 c d nq nr sq sr _ _ _ _ hP5 hc9 (by have := WB_pos; omega) (.inr (.inl hd4)) hgT5 (by rw [hgA]; exact hGL))
     have hL := Lib.hid hL
     clear hP5
     go_wp2_with fail
     refine hE.out.mono ?_
     rintro e w6 ⟨rfl, nq', sq', qv', rv', hQ⟩
     have hQ := Lib.hid hQ
     go_wp2_with fail
     have hdp : 0 < d := by have := WB_pos; omega
     have hml := Nat.mod_lt c hdp
     go_roundg (c % d)
     case measure => rw [hkd'.out]; exact hml
     case rel => exact ⟨g2, g3, g1, d, c % d, rfl, rfl, rfl, rfl, rfl, rfl, _, _, _, _, _, _, _, _, hQ.out, by omega, Nat.le_of_lt hml, Nat.le_trans (digs_length_mono WB_one (Nat.le_of_lt hml)) hd4, by omega, by rw [← hGH.out, Nat.gcd_comm c d, Nat.gcd_rec d c, Nat.gcd_comm]⟩
    ·have t0 : ((v0 : Int) != 0) = true := by simp; omega
     obtain ⟨A1, A2, hN, h21, h1d, hG5⟩ := hL.new hv0
     have hU := Lib.hid (lehUpdate_any w w5 g1 g2 gq g3 c d nq nr u0 u1 v0 v1 A1 A2 sq sr ev _ _ _ _ hP5 hc9 (by omega) b0 b1 b2 b3 hN)
     have hf := Lib.hid (And.intro h21 (And.intro h1d hG5))
     clear hP5 hL hN h21 h1d hG5 b0 b1 b2 b3
     go_wp2_with fail
     refine hU.out.mono ?_
     rintro e w6 ⟨rfl, nq', nr', sq', sr', av', bv', qv', rv', hQ⟩
     have hQ := Lib.hid hQ
     go_wp2_with fail
     obtain ⟨h21, h1d, hG5⟩ := hf.out
     go_roundg A2
     case measure => rw [hkd'.out]; omega
     case rel => exact ⟨g1, g2, g3, A1, A2, rfl, rfl, rfl, rfl, rfl, rfl, _, _, _, _, _, _, _, _, hQ.out, by omega, by omega, Nat.le_trans (digs_length_mono WB_one (by omega)) hd4, Nat.le_trans (digs_length_mono WB_one h1d) (by omega), by rw [hG5]; exact hGH.out⟩
end Go.Proofs.YtgamldefngehlaaGreatDoor
