/- Parts of the walk. -/
import Derived.Test.YtgamldefngehlaaGreatDoorM06
set_option linter.unusedVariables false
set_option linter.unusedSimpArgs false
namespace Go.Proofs.YtgamldefngehlaaGreatDoor
open Go.RowKit
theorem bitsDiv_any (hi lo y : Nat) (hh : hi < y) (hl : lo < WB) (hy : y < WB) (hy2 : hi = 0 ∨ WB ≤ 2 * y) (w : World) :
  Calls Tryz.prog 304 #[.int .u64 hi, .int .u64 lo, .int .u64 y] w fun e w' => e = .returned (.tuple #[.int .u64 ((hi * WB + lo) / y : Nat), .int .u64 ((hi * WB + lo) % y : Nat)]) ∧ ∃ n, w' = w.drewN n := by
 have hP : Calls Tryz.prog 329 #[.int .u64 hi, .int .u64 lo, .int .u64 y] w fun e w' => e = .returned (.tuple #[.int .u64 ((hi * WB + lo) / y : Nat), .int .u64 ((hi * WB + lo) % y : Nat)]) ∧ ∃ n, w' = w.drewN n := by
  by_cases h0 : hi = 0
  ·subst h0
   rw [Nat.zero_mul, Nat.zero_add]
   exact bitsDiv64_zero lo y hl hy (by omega) w
  ·exact (bitsDiv64_any hi lo y hh h0 hl hy (hy2.resolve_left h0) w).mono fun e w' ⟨h1, h2⟩ => ⟨h1, 0, by rw [h2]; rfl⟩
 have eh := wrapW (Nat.lt_trans hh hy)
 have el := wrapW hl
 have ey := wrapW hy
 have hq : (hi * WB + lo) / y < WB := by
  rw [Nat.div_lt_iff_lt_mul (by omega)]
  have := Nat.mul_le_mul_right WB hh
  rw [Nat.succ_mul] at this
  rw [Nat.mul_comm WB y]
  omega
 have hr : (hi * WB + lo) % y < WB := Nat.lt_trans (Nat.mod_lt _ (by omega)) hy
 obtain ⟨A1, hA1⟩ : ∃ A1, (hi * WB + lo) / y = A1 := ⟨_, rfl⟩
 obtain ⟨A2, hA2⟩ : ∃ A2, (hi * WB + lo) % y = A2 := ⟨_, rfl⟩
 rw [hA1] at hP hq ⊢
 rw [hA2] at hP hr ⊢
 have e1 := wrapW hq
 have e2 := wrapW hr
 have hP' := Lib.hid hP
 clear hP hh hl hy hy2 hA1 hA2 hq hr
 go_enter Tryz.func304, Tryz.ntmps304
 go_wp2_with fail
 refine hP'.out.mono ?_
 rintro e w' ⟨rfl, n, rfl⟩
 go_wp2
 go_ret2
 exact ⟨rfl, _, rfl⟩
theorem notW {u : Nat} (h : u < WB) : bits .xor .u64 IntKind.u64.max (u : Int) = ((WB - 1 - u : Nat) : Int) := by
 rw [show IntKind.u64.max = 18446744073709551615 from rfl]
 show IntKind.u64.wrap ((BitVec.ofInt 64 18446744073709551615 ^^^ BitVec.ofInt 64 (u : Int)).toNat : Int) = _
 have h1 : BitVec.ofInt 64 18446744073709551615 = BitVec.allOnes 64 := by decide
 rw [WB_eq] at h ⊢
 rw [h1, BitVec.allOnes_xor, BitVec.toNat_not, ofInt_u64 u h, IntKind.wrap_u64]
 omega
theorem maxW : ((WB - 1 : Nat) : Int) = 18446744073709551615 := rfl
theorem recip_eq {u : Nat} (hu : u < WB) (h0 : 0 < u) : ((WB - 1 - u) * WB + (WB - 1)) / u = recip u := by
 unfold recip
 have e : (WB - 1 - u) * WB + (WB - 1) = WB * WB - 1 - u * WB := by
  have h1 : u * WB + WB ≤ WB * WB := by rw [← Nat.succ_mul]; exact Nat.mul_le_mul_right _ hu
  rw [Nat.sub_sub, Nat.sub_mul, Nat.add_mul, Nat.one_mul]
  omega
 rw [e, Nat.sub_mul_div]
theorem recip_lt {u : Nat} (hu : u < WB) (hu2 : WB ≤ 2 * u) : recip u < WB := by
 rw [← recip_eq hu (by have := WB_pos; omega), Nat.div_lt_iff_lt_mul (by have := WB_pos; omega)]
 have h1 : (WB - 1 - u) * WB + WB ≤ u * WB := by rw [← Nat.succ_mul]; exact Nat.mul_le_mul_right _ (by omega)
 rw [Nat.mul_comm WB u]
 omega
set_option maxRecDepth 100000 in
theorem reciprocalWord_any (d : Nat) (h0 : d ≠ 0) (hd : d < WB) (w : World) :
  Calls Tryz.prog 305 #[.int .u64 d] w fun e w' => e = .returned (.int .u64 (recip (d * 2 ^ nlzN d) : Nat)) ∧ ∃ n, w' = w.drewN n := by
 obtain ⟨hu, hu2⟩ := nlz_norm h0 hd
 have hs := nlz_le h0 hd
 have hN := Lib.hid (nlz_any d hd)
 obtain ⟨s, hs'⟩ : ∃ s, nlzN d = s := ⟨_, rfl⟩
 rw [hs'] at hu hu2 hs hN ⊢
 obtain ⟨u, hu'⟩ : ∃ u, d * 2 ^ s = u := ⟨_, rfl⟩
 rw [hu'] at hu hu2 ⊢
 have hw := WB_pos
 have hsh : shlN d s = u := by unfold shlN; rw [hu', Nat.mod_eq_of_lt hu]
 have e1 := shlI (show s ≤ 64 by omega) d
 have e2 := shlI' s d
 rw [hsh] at e1 e2
 have e3 := wrapW hu
 have hD := Lib.hid (bitsDiv_any (WB - 1 - u) (WB - 1) u (by omega) (by omega) hu (.inr hu2))
 have hr := recip_lt hu hu2
 rw [recip_eq hu (by omega)] at hD
 have e4 := wrapW hr
 have e5 := notW hu
 obtain ⟨nu, hnu⟩ : ∃ nu, WB - 1 - u = nu := ⟨_, rfl⟩
 rw [hnu] at e5 hD
 rw [maxW] at hD
 have e6 := wrapW (show nu < WB by omega)
 clear hw hu hu2 hr hd hnu
 clear hsh hu' hs'
 go_enter Tryz.func305, Tryz.ntmps305
 go_wp2_with fail
 refine (hN.out _).mono ?_
 rintro e w1 ⟨rfl, hw1⟩
 obtain rfl := hw1.symm
 go_wp2_with fail
 refine (hD.out _).mono ?_
 rintro e w1 ⟨rfl, n, rfl⟩
 go_wp2
 go_ret
 exact ⟨rfl, _, rfl⟩
structure Div21 (D X1 X0 qq r r0 r1 : Nat) : Prop where
 hq : sumW (recip D * X1 / WB) X1 (carW (recip D * X1 % WB) X0 0) = qq
 lt : qq < WB
 h0 : difW X0 (D * qq % WB) 0 = r0
 h1 : difW X1 (D * qq / WB) (borW X0 (D * qq % WB) 0) = r1
 eq : D * qq + r = X1 * WB + X0
 rlt : r < WB + D
 two : r = r1 * WB + r0
 one : r1 ≤ 1
 r0l : r0 < WB
theorem div21_code {D X1 X0 : Nat} (hD : D < WB) (hD2 : WB ≤ 2 * D) (h1 : X1 < D) (h0 : X0 < WB) : ∃ qq r r0 r1, Div21 D X1 X0 qq r r0 r1 := by
 obtain ⟨q, r, hq, hql, heq, hr⟩ := div21 hD hD2 h1 h0
 have hw := WB_pos
 have hX1 : X1 < WB := by omega
 have hqs : sumW (recip D * X1 / WB) X1 (carW (recip D * X1 % WB) X0 0) = q := by
  unfold sumW carW
  generalize recip D * X1 = p at *
  have hd := Nat.div_add_mod p WB
  have e : (p + X0 + X1 * WB) / WB = p / WB + X1 + (p % WB + X0 + 0) / WB := by
   have : p + X0 + X1 * WB = WB * (p / WB + X1) + (p % WB + X0 + 0) := by rw [Nat.mul_add, Nat.mul_comm WB X1]; omega
   rw [this, Nat.mul_add_div hw]
  rw [← e, ← hq, Nat.mod_eq_of_lt hql]
 have hdm := Nat.div_add_mod (D * q) WB
 have hm := Nat.mod_lt (D * q) hw
 have hdl : D * q / WB < WB := by
  rw [Nat.div_lt_iff_lt_mul hw]
  have a : X1 * WB + WB ≤ WB * WB := by rw [← Nat.succ_mul]; exact Nat.mul_le_mul_right _ hX1
  omega
 have b0 := difW_bor h0 hm (show 0 ≤ 1 by omega)
 have b1 := difW_bor hX1 hdl (borW_le X0 (D * q % WB) 0)
 have l0 := difW_lt X0 (D * q % WB) 0
 have l1 := difW_lt X1 (D * q / WB) (borW X0 (D * q % WB) 0)
 have c1 := borW_le X1 (D * q / WB) (borW X0 (D * q % WB) 0)
 have two : r = difW X1 (D * q / WB) (borW X0 (D * q % WB) 0) * WB + difW X0 (D * q % WB) 0 := by
  generalize difW X0 (D * q % WB) 0 = d0 at *
  generalize difW X1 (D * q / WB) (borW X0 (D * q % WB) 0) = d1 at *
  generalize borW X1 (D * q / WB) (borW X0 (D * q % WB) 0) = k at *
  generalize borW X0 (D * q % WB) 0 = j at *
  generalize D * q / WB = hi at *
  generalize D * q % WB = lo at *
  have e1 : (d1 + hi + j) * WB = (X1 + WB * k) * WB := by rw [b1]
  rw [Nat.add_mul, Nat.add_mul, Nat.add_mul] at e1
  rw [Nat.mul_comm WB hi] at hdm
  rw [Nat.mul_comm WB j] at b0
  have hk : k = 0 := by
   rcases (show k = 0 ∨ k = 1 by omega) with h | h
   ·exact h
   ·subst h
    rw [Nat.mul_one] at e1
    have : d1 * WB + WB ≤ WB * WB := by rw [← Nat.succ_mul]; exact Nat.mul_le_mul_right _ l1
    omega
  subst hk
  rw [Nat.mul_zero, Nat.zero_mul] at e1
  omega
 refine ⟨q, r, _, _, hqs, hql, rfl, rfl, heq, hr, two, ?_, l0⟩
 have : difW X1 (D * q / WB) (borW X0 (D * q % WB) 0) < 2 := by
  refine Nat.lt_of_mul_lt_mul_right (a := WB) ?_
  omega
 omega
end Go.Proofs.YtgamldefngehlaaGreatDoor
namespace Go.Proofs.YtgamldefngehlaaGreatDoor
open Go.RowKit
theorem shift21 {x1 x0 y s : Nat} (hs : s ≤ 63) (hy : y * 2 ^ s < WB) (h1 : x1 < y) (h0 : x0 < WB) :
  x1 * 2 ^ s + x0 / 2 ^ (64 - s) < y * 2 ^ s ∧ (x1 * 2 ^ s + x0 / 2 ^ (64 - s)) * WB + x0 * 2 ^ s % WB = (x1 * WB + x0) * 2 ^ s := by
 have hc := shr_lt (s := s) (by omega) h0
 constructor
 ·have := Nat.mul_le_mul_right (2 ^ s) h1
  rw [Nat.succ_mul] at this
  omega
 ·have e := Nat.div_add_mod (x0 * 2 ^ s) WB
  rw [shl_high (by omega)] at e
  have e1 : x1 * 2 ^ s * WB = x1 * WB * 2 ^ s := Nat.mul_right_comm _ _ _
  rw [Nat.add_mul, Nat.add_mul, e1, Nat.mul_comm (x0 / 2 ^ (64 - s)) WB]
  omega
theorem left_big {D r r0 r1 : Nat} (htwo : r = r1 * WB + r0) (hone : r1 ≤ 1) (h0 : r0 < WB) (hD : D < WB) (hbig : WB ≤ r) (hrlt : r < WB + D) :
  r1 = 1 ∧ IntKind.u64.wrap ((r0 : Int) - (D : Int)) = ((r - D : Nat) : Int) ∧ D ≤ r ∧ r - D < WB := by
 have h1 : r1 = 1 := by
  rcases Nat.lt_or_ge r1 1 with h | h
  ·have : r1 = 0 := by omega
   subst this
   omega
  ·omega
 subst h1
 rw [WB_eq] at *
 refine ⟨rfl, ?_, by omega, by omega⟩
 rw [IntKind.wrap_u64]
 omega
theorem left_small {r r0 r1 : Nat} (htwo : r = r1 * WB + r0) (hone : r1 ≤ 1) (hbig : ¬ WB ≤ r) : r1 = 0 ∧ r0 = r := by
 have h1 : r1 = 0 := by
  rcases Nat.lt_or_ge r1 1 with h | h
  ·omega
  ·have : r1 = 1 := by omega
   subst this
   omega
 subst h1
 omega
set_option maxRecDepth 100000 in
set_option maxHeartbeats 2000000 in
theorem divWW_any (x1 x0 y : Nat) (hy0 : y ≠ 0) (hy : y < WB) (hx1 : x1 < y) (hx0 : x0 < WB) (w : World) :
  Calls Tryz.prog 306 #[.int .u64 x1, .int .u64 x0, .int .u64 y, .int .u64 (recip (y * 2 ^ nlzN y) : Nat)] w fun e w' => e = .returned (.tuple #[.int .u64 ((x1 * WB + x0) / y : Nat), .int .u64 ((x1 * WB + x0) % y : Nat)]) ∧ w' = w := by
 obtain ⟨hu, hu2⟩ := nlz_norm hy0 hy
 have hs := nlz_le hy0 hy
 have hN := Lib.hid (nlz_any y hy w)
 obtain ⟨s, hs'⟩ : ∃ s, nlzN y = s := ⟨_, rfl⟩
 rw [hs'] at hu hu2 hs hN ⊢
 obtain ⟨hX1, hX⟩ := shift21 hs hu hx1 hx0
 have hrl := recip_lt hu hu2
 have hX0 : x0 * 2 ^ s % WB < WB := Nat.mod_lt _ WB_pos
 have hsh : shlN y s = y * 2 ^ s := by unfold shlN; rw [Nat.mod_eq_of_lt hu]
 have hx1l : x1 * 2 ^ s < WB := Nat.lt_of_le_of_lt (Nat.mul_le_mul_right _ (Nat.le_of_lt hx1)) hu
 have hor : shlN x1 s ||| shrN x0 (64 - s) = x1 * 2 ^ s + x0 / 2 ^ (64 - s) := by
  unfold shlN shrN
  rw [shl_or (by omega) (shr_lt (by omega) hx0), Nat.mod_eq_of_lt hx1l]
 have hA1 : (x1 * WB + x0) * 2 ^ s / (y * 2 ^ s) = (x1 * WB + x0) / y := Nat.mul_div_mul_right _ _ (two_pos s)
 have hA2 : (x1 * WB + x0) * 2 ^ s % (y * 2 ^ s) = (x1 * WB + x0) % y * 2 ^ s := Nat.mul_mod_mul_right _ _ _
 have hA1l : (x1 * WB + x0) / y < WB := by
  rw [Nat.div_lt_iff_lt_mul (by omega)]
  have := Nat.mul_le_mul_right WB hx1
  rw [Nat.succ_mul] at this
  rw [Nat.mul_comm WB y]
  omega
 have hx1b : x1 < WB := by omega
 have hor' := orI (shlN_lt x1 s) (shrN_lt hx0 (64 - s)) hor
 have hX00 : shlN x0 s = x0 * 2 ^ s % WB := rfl
 rw [← hX] at hA1 hA2
 obtain ⟨D, hD⟩ : ∃ D, y * 2 ^ s = D := ⟨_, rfl⟩
 obtain ⟨X1, hX1'⟩ : ∃ X1, x1 * 2 ^ s + x0 / 2 ^ (64 - s) = X1 := ⟨_, rfl⟩
 obtain ⟨X0, hX0'⟩ : ∃ X0, x0 * 2 ^ s % WB = X0 := ⟨_, rfl⟩
 rw [hD] at hu hu2 hX1 hsh hrl hA1 hA2 ⊢
 rw [hX1'] at hX1 hX hor' hA1 hA2
 rw [hX0'] at hX hX0 hX00 hA1 hA2
 obtain ⟨A1, hA1'⟩ : ∃ A1, (x1 * WB + x0) / y = A1 := ⟨_, rfl⟩
 obtain ⟨A2, hA2'⟩ : ∃ A2, (x1 * WB + x0) % y = A2 := ⟨_, rfl⟩
 rw [hA1'] at hA1 hA1l ⊢
 rw [hA2'] at hA2 ⊢
 obtain ⟨qq, r, r0, r1, hq, hqq, hr0, hr1, heq, hrlt, htwo, hone, hr0l⟩ := div21_code hu hu2 hX1 hX0
 have hfix := div21_fix hu hu2 heq hrlt
 rw [hA1, hA2] at hfix
 have hR : ∀ R : Nat, A2 * 2 ^ s = R → (R : Int) / 2 ^ min s 64 = (A2 : Int) ∧ (R : Int) / 2 ^ s = (A2 : Int) := fun R h => by
  have e : shrN R s = A2 := by unfold shrN; rw [← h, Nat.mul_div_cancel _ (two_pos s)]
  exact ⟨by rw [shrI (by omega), e], by rw [shrI', e]⟩
 obtain ⟨rc, hrc⟩ : ∃ rc, recip D = rc := ⟨_, rfl⟩
 rw [hrc] at hq hrl ⊢
 have hX1w : X1 < WB := by omega
 have hM1 := Lib.hid (bitsMul rc X1 hrl hX1w w)
 have hM2 := Lib.hid (bitsAdd (rc * X1 % WB) X0 0 (Nat.mod_lt _ WB_pos) hX0 (by omega) w)
 have hM3 := bitsAdd (rc * X1 / WB) X1 (carW (rc * X1 % WB) X0 0) (by rw [Nat.div_lt_iff_lt_mul WB_pos]; exact Nat.lt_of_le_of_lt (Nat.mul_le_mul_left _ (Nat.le_of_lt hX1w)) (Nat.mul_lt_mul_of_pos_right hrl WB_pos)) hX1w (carW_le1 (Nat.mod_lt _ WB_pos) hX0 (by omega)) w
 rw [hq] at hM3
 have hM3 := Lib.hid hM3
 have hM4 := Lib.hid (bitsMul D qq hu hqq w)
 have hdl : D * qq / WB < WB := by rw [Nat.div_lt_iff_lt_mul WB_pos]; exact Nat.lt_of_le_of_lt (Nat.mul_le_mul_left _ (Nat.le_of_lt hqq)) (Nat.mul_lt_mul_of_pos_right hu WB_pos)
 have hM5 := bitsSub X0 (D * qq % WB) 0 hX0 (Nat.mod_lt _ WB_pos) (by omega) w
 rw [hr0] at hM5
 have hM5 := Lib.hid hM5
 have hM6 := bitsSub X1 (D * qq / WB) (borW X0 (D * qq % WB) 0) hX1w hdl (borW_le _ _ _) w
 rw [hr1] at hM6
 have hM6 := Lib.hid hM6
 generalize rc * X1 / WB = m1 at *
 generalize rc * X1 % WB = m0 at *
 generalize carW m0 X0 0 = c0 at *
 generalize D * qq / WB = d1 at *
 generalize D * qq % WB = d0 at *
 generalize borW X0 d0 0 = b0 at *
 generalize sumW m0 X0 0 = g0 at *
 generalize carW m1 X1 c0 = g1 at *
 generalize borW X1 d1 b0 = g2 at *
 by_cases hs0 : s = 0
 ·have hDy : y = D := by rw [← hD, hs0]; simp
  have hXx : x1 = X1 := by rw [← hX1', hs0]; have := Nat.div_eq_of_lt (show x0 < 2 ^ 64 by rw [WB_eq] at hx0; omega); simp [this]
  have hXx0 : x0 = X0 := by rw [← hX0', hs0]; simp [Nat.mod_eq_of_lt hx0]
  have ts : (s : Int) = 0 := by omega
  clear hs' hD hX1' hX0' hA1' hA2' hrc hor hor' ts
  obtain rfl := hDy.symm
  obtain rfl := hXx.symm
  obtain rfl := hXx0.symm
  subst hs0
  have ts : ((0 : Nat) : Int) = 0 := rfl
  by_cases hbig : WB ≤ r
  ·rw [if_pos hbig, if_pos hbig] at hfix
   by_cases hag : D ≤ r - D
   ·rw [if_pos hag, if_pos hag] at hfix
    obtain ⟨hr1v, s2, hDr, hral⟩ := left_big htwo hone hr0l hu hbig hrlt
    have t1 : (r1 : Int) ≠ 0 := by omega
    obtain ⟨q1, hq1⟩ : ∃ q1, qq + 1 = q1 := ⟨_, rfl⟩
    obtain ⟨ra, hra⟩ : ∃ ra, r - D = ra := ⟨_, rfl⟩
    rw [hra] at s2 hral hag
    have t2 : (D : Int) ≤ ra := by omega
    obtain ⟨q2, hq2⟩ : ∃ q2, q1 + 1 = q2 := ⟨_, rfl⟩
    obtain ⟨rb, hrb⟩ : ∃ rb, ra - D = rb := ⟨_, rfl⟩
    have hAq : A1 = q2 := by omega
    have hAr : A2 * 2 ^ 0 = rb := by omega
    have s1 : IntKind.u64.wrap ((qq : Int) + 1) = (q1 : Int) := by rw [show (qq : Int) + 1 = (q1 : Int) by omega]; exact wrapW (by omega)
    have s3 : IntKind.u64.wrap ((q1 : Int) + 1) = (q2 : Int) := by rw [show (q1 : Int) + 1 = (q2 : Int) by omega]; exact wrapW (by omega)
    have s4 : (ra : Int) - (D : Int) = (rb : Int) := by omega
    have s5 : IntKind.u64.wrap (rb : Int) = (rb : Int) := wrapW (by omega)
    obtain ⟨s6, s7⟩ := hR rb hAr
    have hAr' := Lib.hid (show A2 = rb by simpa using hAr)
    have hAq' := Lib.hid hAq
    have w1 := wrapW hx1b
    have w2 := wrapW hx0
    have w3 := wrapW hy
    have w4 := wrapW hu
    have w5 := wrapW hrl
    have w6 := wrapW hX1w
    have w7 := wrapW hX0
    have w8 := wrapW hqq
    have w9 := wrapW hA1l
    clear hAq hAr hfix heq hrlt htwo hone hr0l hR hy hx1 hx0 hu hu2 hX1 hX0 hA1 hA2 hA1l hqq hq hrl hX1w hx1b hsh hX00 hdl hr1v hX hx1l hbig hag hq1 hra hDr hral hq2 hrb
    go_enter Tryz.func306, Tryz.ntmps306
    go_wp2_with fail
    refine hN.out.mono ?_
    rintro e w1 ⟨rfl, hw1⟩
    obtain rfl := hw1.symm
    go_wp2_with fail
    refine hM1.out.mono ?_
    rintro e w1 ⟨rfl, hw1⟩
    obtain rfl := hw1.symm
    go_wp2_with fail
    refine hM2.out.mono ?_
    rintro e w1 ⟨rfl, hw1⟩
    obtain rfl := hw1.symm
    go_wp2_with fail
    refine hM3.out.mono ?_
    rintro e w1 ⟨rfl, hw1⟩
    obtain rfl := hw1.symm
    go_wp2_with fail
    refine hM4.out.mono ?_
    rintro e w1 ⟨rfl, hw1⟩
    obtain rfl := hw1.symm
    go_wp2_with fail
    refine hM5.out.mono ?_
    rintro e w1 ⟨rfl, hw1⟩
    obtain rfl := hw1.symm
    go_wp2_with fail
    refine hM6.out.mono ?_
    rintro e w1 ⟨rfl, hw1⟩
    obtain rfl := hw1.symm
    go_wp2_with fail
    go_ret2
    exact ⟨ret2_int (by rw [hAq'.out]) (by rw [hAr'.out]), rfl⟩
   ·rw [if_neg hag, if_neg hag] at hfix
    obtain ⟨hr1v, s2, hDr, hral⟩ := left_big htwo hone hr0l hu hbig hrlt
    have t1 : (r1 : Int) ≠ 0 := by omega
    obtain ⟨q1, hq1⟩ : ∃ q1, qq + 1 = q1 := ⟨_, rfl⟩
    obtain ⟨ra, hra⟩ : ∃ ra, r - D = ra := ⟨_, rfl⟩
    rw [hra] at s2 hral hag
    have t2 : ¬ (D : Int) ≤ ra := by omega
    have hAq : A1 = q1 := by omega
    have hAr : A2 * 2 ^ 0 = ra := by omega
    have s1 : IntKind.u64.wrap ((qq : Int) + 1) = (q1 : Int) := by rw [show (qq : Int) + 1 = (q1 : Int) by omega]; exact wrapW (by omega)
    obtain ⟨s6, s7⟩ := hR ra hAr
    have hAr' := Lib.hid (show A2 = ra by simpa using hAr)
    have hAq' := Lib.hid hAq
    have w1 := wrapW hx1b
    have w2 := wrapW hx0
    have w3 := wrapW hy
    have w4 := wrapW hu
    have w5 := wrapW hrl
    have w6 := wrapW hX1w
    have w7 := wrapW hX0
    have w8 := wrapW hqq
    have w9 := wrapW hA1l
    clear hAq hAr hfix heq hrlt htwo hone hr0l hR hy hx1 hx0 hu hu2 hX1 hX0 hA1 hA2 hA1l hqq hq hrl hX1w hx1b hsh hX00 hdl hr1v hX hx1l hbig hag hq1 hra hDr hral
    go_enter Tryz.func306, Tryz.ntmps306
    go_wp2_with fail
    refine hN.out.mono ?_
    rintro e w1 ⟨rfl, hw1⟩
    obtain rfl := hw1.symm
    go_wp2_with fail
    refine hM1.out.mono ?_
    rintro e w1 ⟨rfl, hw1⟩
    obtain rfl := hw1.symm
    go_wp2_with fail
    refine hM2.out.mono ?_
    rintro e w1 ⟨rfl, hw1⟩
    obtain rfl := hw1.symm
    go_wp2_with fail
    refine hM3.out.mono ?_
    rintro e w1 ⟨rfl, hw1⟩
    obtain rfl := hw1.symm
    go_wp2_with fail
    refine hM4.out.mono ?_
    rintro e w1 ⟨rfl, hw1⟩
    obtain rfl := hw1.symm
    go_wp2_with fail
    refine hM5.out.mono ?_
    rintro e w1 ⟨rfl, hw1⟩
    obtain rfl := hw1.symm
    go_wp2_with fail
    refine hM6.out.mono ?_
    rintro e w1 ⟨rfl, hw1⟩
    obtain rfl := hw1.symm
    go_wp2_with fail
    go_ret2
    exact ⟨ret2_int (by rw [hAq'.out]) (by rw [hAr'.out]), rfl⟩
  ·rw [if_neg hbig, if_neg hbig] at hfix
   by_cases hag : D ≤ r
   ·rw [if_pos hag, if_pos hag] at hfix
    obtain ⟨hr1v, hr00⟩ := left_small htwo hone hbig
    have t1 : (r1 : Int) = 0 := by omega
    have t2 : (D : Int) ≤ r0 := by omega
    obtain ⟨q2, hq2⟩ : ∃ q2, qq + 1 = q2 := ⟨_, rfl⟩
    obtain ⟨rb, hrb⟩ : ∃ rb, r0 - D = rb := ⟨_, rfl⟩
    have hAq : A1 = q2 := by omega
    have hAr : A2 * 2 ^ 0 = rb := by omega
    have s3 : IntKind.u64.wrap ((qq : Int) + 1) = (q2 : Int) := by rw [show (qq : Int) + 1 = (q2 : Int) by omega]; exact wrapW (by omega)
    have s4 : (r0 : Int) - (D : Int) = (rb : Int) := by omega
    have s5 : IntKind.u64.wrap (rb : Int) = (rb : Int) := wrapW (by omega)
    obtain ⟨s6, s7⟩ := hR rb hAr
    have hAr' := Lib.hid (show A2 = rb by simpa using hAr)
    have hAq' := Lib.hid hAq
    have w1 := wrapW hx1b
    have w2 := wrapW hx0
    have w3 := wrapW hy
    have w4 := wrapW hu
    have w5 := wrapW hrl
    have w6 := wrapW hX1w
    have w7 := wrapW hX0
    have w8 := wrapW hqq
    have w9 := wrapW hA1l
    clear hAq hAr hfix heq hrlt htwo hone hr0l hR hy hx1 hx0 hu hu2 hX1 hX0 hA1 hA2 hA1l hqq hq hrl hX1w hx1b hsh hX00 hdl hr1v hX hx1l hbig hag hr00 hq2 hrb
    go_enter Tryz.func306, Tryz.ntmps306
    go_wp2_with fail
    refine hN.out.mono ?_
    rintro e w1 ⟨rfl, hw1⟩
    obtain rfl := hw1.symm
    go_wp2_with fail
    refine hM1.out.mono ?_
    rintro e w1 ⟨rfl, hw1⟩
    obtain rfl := hw1.symm
    go_wp2_with fail
    refine hM2.out.mono ?_
    rintro e w1 ⟨rfl, hw1⟩
    obtain rfl := hw1.symm
    go_wp2_with fail
    refine hM3.out.mono ?_
    rintro e w1 ⟨rfl, hw1⟩
    obtain rfl := hw1.symm
    go_wp2_with fail
    refine hM4.out.mono ?_
    rintro e w1 ⟨rfl, hw1⟩
    obtain rfl := hw1.symm
    go_wp2_with fail
    refine hM5.out.mono ?_
    rintro e w1 ⟨rfl, hw1⟩
    obtain rfl := hw1.symm
    go_wp2_with fail
    refine hM6.out.mono ?_
    rintro e w1 ⟨rfl, hw1⟩
    obtain rfl := hw1.symm
    go_wp2_with fail
    go_ret2
    exact ⟨ret2_int (by rw [hAq'.out]) (by rw [hAr'.out]), rfl⟩
   ·rw [if_neg hag, if_neg hag] at hfix
    obtain ⟨hr1v, hr00⟩ := left_small htwo hone hbig
    have t1 : (r1 : Int) = 0 := by omega
    have t2 : ¬ (D : Int) ≤ r0 := by omega
    have hAq : A1 = qq := by omega
    have hAr : A2 * 2 ^ 0 = r0 := by omega
    obtain ⟨s6, s7⟩ := hR r0 hAr
    have hAr' := Lib.hid (show A2 = r0 by simpa using hAr)
    have hAq' := Lib.hid hAq
    have w1 := wrapW hx1b
    have w2 := wrapW hx0
    have w3 := wrapW hy
    have w4 := wrapW hu
    have w5 := wrapW hrl
    have w6 := wrapW hX1w
    have w7 := wrapW hX0
    have w8 := wrapW hqq
    have w9 := wrapW hA1l
    clear hAq hAr hfix heq hrlt htwo hone hr0l hR hy hx1 hx0 hu hu2 hX1 hX0 hA1 hA2 hA1l hqq hq hrl hX1w hx1b hsh hX00 hdl hr1v hX hx1l hbig hag hr00
    go_enter Tryz.func306, Tryz.ntmps306
    go_wp2_with fail
    refine hN.out.mono ?_
    rintro e w1 ⟨rfl, hw1⟩
    obtain rfl := hw1.symm
    go_wp2_with fail
    refine hM1.out.mono ?_
    rintro e w1 ⟨rfl, hw1⟩
    obtain rfl := hw1.symm
    go_wp2_with fail
    refine hM2.out.mono ?_
    rintro e w1 ⟨rfl, hw1⟩
    obtain rfl := hw1.symm
    go_wp2_with fail
    refine hM3.out.mono ?_
    rintro e w1 ⟨rfl, hw1⟩
    obtain rfl := hw1.symm
    go_wp2_with fail
    refine hM4.out.mono ?_
    rintro e w1 ⟨rfl, hw1⟩
    obtain rfl := hw1.symm
    go_wp2_with fail
    refine hM5.out.mono ?_
    rintro e w1 ⟨rfl, hw1⟩
    obtain rfl := hw1.symm
    go_wp2_with fail
    refine hM6.out.mono ?_
    rintro e w1 ⟨rfl, hw1⟩
    obtain rfl := hw1.symm
    go_wp2_with fail
    go_ret2
    exact ⟨ret2_int (by rw [hAq'.out]) (by rw [hAr'.out]), rfl⟩
 ·have ts : (s : Int) ≠ 0 := by omega
  have ts' : ¬ s = 0 := hs0
  clear hs' hD hX1' hX0' hA1' hA2' hrc hor
  by_cases hbig : WB ≤ r
  ·rw [if_pos hbig, if_pos hbig] at hfix
   by_cases hag : D ≤ r - D
   ·rw [if_pos hag, if_pos hag] at hfix
    obtain ⟨hr1v, s2, hDr, hral⟩ := left_big htwo hone hr0l hu hbig hrlt
    have t1 : (r1 : Int) ≠ 0 := by omega
    obtain ⟨q1, hq1⟩ : ∃ q1, qq + 1 = q1 := ⟨_, rfl⟩
    obtain ⟨ra, hra⟩ : ∃ ra, r - D = ra := ⟨_, rfl⟩
    rw [hra] at s2 hral hag
    have t2 : (D : Int) ≤ ra := by omega
    obtain ⟨q2, hq2⟩ : ∃ q2, q1 + 1 = q2 := ⟨_, rfl⟩
    obtain ⟨rb, hrb⟩ : ∃ rb, ra - D = rb := ⟨_, rfl⟩
    have hAq : A1 = q2 := by omega
    have hAr : A2 * 2 ^ s = rb := by omega
    have s1 : IntKind.u64.wrap ((qq : Int) + 1) = (q1 : Int) := by rw [show (qq : Int) + 1 = (q1 : Int) by omega]; exact wrapW (by omega)
    have s3 : IntKind.u64.wrap ((q1 : Int) + 1) = (q2 : Int) := by rw [show (q1 : Int) + 1 = (q2 : Int) by omega]; exact wrapW (by omega)
    have s4 : (ra : Int) - (D : Int) = (rb : Int) := by omega
    have s5 : IntKind.u64.wrap (rb : Int) = (rb : Int) := wrapW (by omega)
    obtain ⟨s6, s7⟩ := hR rb hAr
    have hAq' := Lib.hid hAq
    have e1 := shlI (show s ≤ 64 by omega) x1
    have e1' := shlI' s x1
    have e2 := shlI (show s ≤ 64 by omega) y
    have e2' := shlI' s y
    rw [hsh] at e2 e2'
    have e3 := shlI (show s ≤ 64 by omega) x0
    have e3' := shlI' s x0
    rw [hX00] at e3 e3'
    have e4 := shrI (show 64 - s ≤ 64 by omega) x0
    have e4' := shrI' (64 - s) x0
    have e5 : (64 : Int) - (s : Int) = ((64 - s : Nat) : Int) := by omega
    have w1 := wrapW hx1b
    have w2 := wrapW hx0
    have w3 := wrapW hy
    have w4 := wrapW hu
    have w5 := wrapW hrl
    have w6 := wrapW hX1w
    have w7 := wrapW hX0
    have w8 := wrapW hqq
    have w9 := wrapW hA1l
    clear hAq hAr hfix heq hrlt htwo hone hr0l hR hy hx1 hx0 hu hu2 hX1 hX0 hA1 hA2 hA1l hqq hq hrl hX1w hx1b hsh hX00 hdl hr1v hX hx1l hbig hag hq1 hra hDr hral hq2 hrb
    go_enter Tryz.func306, Tryz.ntmps306
    go_wp2_with fail
    refine hN.out.mono ?_
    rintro e w1 ⟨rfl, hw1⟩
    obtain rfl := hw1.symm
    go_wp2_with fail
    refine hM1.out.mono ?_
    rintro e w1 ⟨rfl, hw1⟩
    obtain rfl := hw1.symm
    go_wp2_with fail
    refine hM2.out.mono ?_
    rintro e w1 ⟨rfl, hw1⟩
    obtain rfl := hw1.symm
    go_wp2_with fail
    refine hM3.out.mono ?_
    rintro e w1 ⟨rfl, hw1⟩
    obtain rfl := hw1.symm
    go_wp2_with fail
    refine hM4.out.mono ?_
    rintro e w1 ⟨rfl, hw1⟩
    obtain rfl := hw1.symm
    go_wp2_with fail
    refine hM5.out.mono ?_
    rintro e w1 ⟨rfl, hw1⟩
    obtain rfl := hw1.symm
    go_wp2_with fail
    refine hM6.out.mono ?_
    rintro e w1 ⟨rfl, hw1⟩
    obtain rfl := hw1.symm
    go_wp2_with fail
    go_ret2
    exact ⟨ret2_int (by rw [hAq'.out]) rfl, rfl⟩
   ·rw [if_neg hag, if_neg hag] at hfix
    obtain ⟨hr1v, s2, hDr, hral⟩ := left_big htwo hone hr0l hu hbig hrlt
    have t1 : (r1 : Int) ≠ 0 := by omega
    obtain ⟨q1, hq1⟩ : ∃ q1, qq + 1 = q1 := ⟨_, rfl⟩
    obtain ⟨ra, hra⟩ : ∃ ra, r - D = ra := ⟨_, rfl⟩
    rw [hra] at s2 hral hag
    have t2 : ¬ (D : Int) ≤ ra := by omega
    have hAq : A1 = q1 := by omega
    have hAr : A2 * 2 ^ s = ra := by omega
    have s1 : IntKind.u64.wrap ((qq : Int) + 1) = (q1 : Int) := by rw [show (qq : Int) + 1 = (q1 : Int) by omega]; exact wrapW (by omega)
    obtain ⟨s6, s7⟩ := hR ra hAr
    have hAq' := Lib.hid hAq
    have e1 := shlI (show s ≤ 64 by omega) x1
    have e1' := shlI' s x1
    have e2 := shlI (show s ≤ 64 by omega) y
    have e2' := shlI' s y
    rw [hsh] at e2 e2'
    have e3 := shlI (show s ≤ 64 by omega) x0
    have e3' := shlI' s x0
    rw [hX00] at e3 e3'
    have e4 := shrI (show 64 - s ≤ 64 by omega) x0
    have e4' := shrI' (64 - s) x0
    have e5 : (64 : Int) - (s : Int) = ((64 - s : Nat) : Int) := by omega
    have w1 := wrapW hx1b
    have w2 := wrapW hx0
    have w3 := wrapW hy
    have w4 := wrapW hu
    have w5 := wrapW hrl
    have w6 := wrapW hX1w
    have w7 := wrapW hX0
    have w8 := wrapW hqq
    have w9 := wrapW hA1l
    clear hAq hAr hfix heq hrlt htwo hone hr0l hR hy hx1 hx0 hu hu2 hX1 hX0 hA1 hA2 hA1l hqq hq hrl hX1w hx1b hsh hX00 hdl hr1v hX hx1l hbig hag hq1 hra hDr hral
    go_enter Tryz.func306, Tryz.ntmps306
    go_wp2_with fail
    refine hN.out.mono ?_
    rintro e w1 ⟨rfl, hw1⟩
    obtain rfl := hw1.symm
    go_wp2_with fail
    refine hM1.out.mono ?_
    rintro e w1 ⟨rfl, hw1⟩
    obtain rfl := hw1.symm
    go_wp2_with fail
    refine hM2.out.mono ?_
    rintro e w1 ⟨rfl, hw1⟩
    obtain rfl := hw1.symm
    go_wp2_with fail
    refine hM3.out.mono ?_
    rintro e w1 ⟨rfl, hw1⟩
    obtain rfl := hw1.symm
    go_wp2_with fail
    refine hM4.out.mono ?_
    rintro e w1 ⟨rfl, hw1⟩
    obtain rfl := hw1.symm
    go_wp2_with fail
    refine hM5.out.mono ?_
    rintro e w1 ⟨rfl, hw1⟩
    obtain rfl := hw1.symm
    go_wp2_with fail
    refine hM6.out.mono ?_
    rintro e w1 ⟨rfl, hw1⟩
    obtain rfl := hw1.symm
    go_wp2_with fail
    go_ret2
    exact ⟨ret2_int (by rw [hAq'.out]) rfl, rfl⟩
  ·rw [if_neg hbig, if_neg hbig] at hfix
   by_cases hag : D ≤ r
   ·rw [if_pos hag, if_pos hag] at hfix
    obtain ⟨hr1v, hr00⟩ := left_small htwo hone hbig
    have t1 : (r1 : Int) = 0 := by omega
    have t2 : (D : Int) ≤ r0 := by omega
    obtain ⟨q2, hq2⟩ : ∃ q2, qq + 1 = q2 := ⟨_, rfl⟩
    obtain ⟨rb, hrb⟩ : ∃ rb, r0 - D = rb := ⟨_, rfl⟩
    have hAq : A1 = q2 := by omega
    have hAr : A2 * 2 ^ s = rb := by omega
    have s3 : IntKind.u64.wrap ((qq : Int) + 1) = (q2 : Int) := by rw [show (qq : Int) + 1 = (q2 : Int) by omega]; exact wrapW (by omega)
    have s4 : (r0 : Int) - (D : Int) = (rb : Int) := by omega
    have s5 : IntKind.u64.wrap (rb : Int) = (rb : Int) := wrapW (by omega)
    obtain ⟨s6, s7⟩ := hR rb hAr
    have hAq' := Lib.hid hAq
    have e1 := shlI (show s ≤ 64 by omega) x1
    have e1' := shlI' s x1
    have e2 := shlI (show s ≤ 64 by omega) y
    have e2' := shlI' s y
    rw [hsh] at e2 e2'
    have e3 := shlI (show s ≤ 64 by omega) x0
    have e3' := shlI' s x0
    rw [hX00] at e3 e3'
    have e4 := shrI (show 64 - s ≤ 64 by omega) x0
    have e4' := shrI' (64 - s) x0
    have e5 : (64 : Int) - (s : Int) = ((64 - s : Nat) : Int) := by omega
    have w1 := wrapW hx1b
    have w2 := wrapW hx0
    have w3 := wrapW hy
    have w4 := wrapW hu
    have w5 := wrapW hrl
    have w6 := wrapW hX1w
    have w7 := wrapW hX0
    have w8 := wrapW hqq
    have w9 := wrapW hA1l
    clear hAq hAr hfix heq hrlt htwo hone hr0l hR hy hx1 hx0 hu hu2 hX1 hX0 hA1 hA2 hA1l hqq hq hrl hX1w hx1b hsh hX00 hdl hr1v hX hx1l hbig hag hr00 hq2 hrb
    go_enter Tryz.func306, Tryz.ntmps306
    go_wp2_with fail
    refine hN.out.mono ?_
    rintro e w1 ⟨rfl, hw1⟩
    obtain rfl := hw1.symm
    go_wp2_with fail
    refine hM1.out.mono ?_
    rintro e w1 ⟨rfl, hw1⟩
    obtain rfl := hw1.symm
    go_wp2_with fail
    refine hM2.out.mono ?_
    rintro e w1 ⟨rfl, hw1⟩
    obtain rfl := hw1.symm
    go_wp2_with fail
    refine hM3.out.mono ?_
    rintro e w1 ⟨rfl, hw1⟩
    obtain rfl := hw1.symm
    go_wp2_with fail
    refine hM4.out.mono ?_
    rintro e w1 ⟨rfl, hw1⟩
    obtain rfl := hw1.symm
    go_wp2_with fail
    refine hM5.out.mono ?_
    rintro e w1 ⟨rfl, hw1⟩
    obtain rfl := hw1.symm
    go_wp2_with fail
    refine hM6.out.mono ?_
    rintro e w1 ⟨rfl, hw1⟩
    obtain rfl := hw1.symm
    go_wp2_with fail
    go_ret2
    exact ⟨ret2_int (by rw [hAq'.out]) rfl, rfl⟩
   ·rw [if_neg hag, if_neg hag] at hfix
    obtain ⟨hr1v, hr00⟩ := left_small htwo hone hbig
    have t1 : (r1 : Int) = 0 := by omega
    have t2 : ¬ (D : Int) ≤ r0 := by omega
    have hAq : A1 = qq := by omega
    have hAr : A2 * 2 ^ s = r0 := by omega
    obtain ⟨s6, s7⟩ := hR r0 hAr
    have hAq' := Lib.hid hAq
    have e1 := shlI (show s ≤ 64 by omega) x1
    have e1' := shlI' s x1
    have e2 := shlI (show s ≤ 64 by omega) y
    have e2' := shlI' s y
    rw [hsh] at e2 e2'
    have e3 := shlI (show s ≤ 64 by omega) x0
    have e3' := shlI' s x0
    rw [hX00] at e3 e3'
    have e4 := shrI (show 64 - s ≤ 64 by omega) x0
    have e4' := shrI' (64 - s) x0
    have e5 : (64 : Int) - (s : Int) = ((64 - s : Nat) : Int) := by omega
    have w1 := wrapW hx1b
    have w2 := wrapW hx0
    have w3 := wrapW hy
    have w4 := wrapW hu
    have w5 := wrapW hrl
    have w6 := wrapW hX1w
    have w7 := wrapW hX0
    have w8 := wrapW hqq
    have w9 := wrapW hA1l
    clear hAq hAr hfix heq hrlt htwo hone hr0l hR hy hx1 hx0 hu hu2 hX1 hX0 hA1 hA2 hA1l hqq hq hrl hX1w hx1b hsh hX00 hdl hr1v hX hx1l hbig hag hr00
    go_enter Tryz.func306, Tryz.ntmps306
    go_wp2_with fail
    refine hN.out.mono ?_
    rintro e w1 ⟨rfl, hw1⟩
    obtain rfl := hw1.symm
    go_wp2_with fail
    refine hM1.out.mono ?_
    rintro e w1 ⟨rfl, hw1⟩
    obtain rfl := hw1.symm
    go_wp2_with fail
    refine hM2.out.mono ?_
    rintro e w1 ⟨rfl, hw1⟩
    obtain rfl := hw1.symm
    go_wp2_with fail
    refine hM3.out.mono ?_
    rintro e w1 ⟨rfl, hw1⟩
    obtain rfl := hw1.symm
    go_wp2_with fail
    refine hM4.out.mono ?_
    rintro e w1 ⟨rfl, hw1⟩
    obtain rfl := hw1.symm
    go_wp2_with fail
    refine hM5.out.mono ?_
    rintro e w1 ⟨rfl, hw1⟩
    obtain rfl := hw1.symm
    go_wp2_with fail
    refine hM6.out.mono ?_
    rintro e w1 ⟨rfl, hw1⟩
    obtain rfl := hw1.symm
    go_wp2_with fail
    go_ret2
    exact ⟨ret2_int (by rw [hAq'.out]) rfl, rfl⟩
end Go.Proofs.YtgamldefngehlaaGreatDoor
