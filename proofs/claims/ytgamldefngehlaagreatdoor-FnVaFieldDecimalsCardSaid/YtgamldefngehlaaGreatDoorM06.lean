/- Two words divided by one whose highest bit is set: the pure text of math/bits; the reciprocal of a word. -/
import Derived.Test.YtgamldefngehlaaGreatDoorM02
import Derived.Test.YtgamldefngehlaaGreatDoorM05
set_option linter.unusedVariables false
set_option linter.unusedSimpArgs false
namespace Go.Proofs.YtgamldefngehlaaGreatDoor
open Go.RowKit
theorem wrapL {x : Nat} (h : x < 18446744073709551616) : IntKind.u64.wrap (x : Int) = (x : Int) := wrapW (by rw [WB_eq]; exact h)
theorem quoI {a b q : Nat} (h : a / b = q) : (a : Int) / (b : Int) = (q : Int) := by rw [← h]; rfl
theorem mulI {a b p : Nat} (h : a * b = p) (hp : p < 18446744073709551616) : IntKind.u64.wrap ((a : Int) * (b : Int)) = (p : Int) := by
 rw [← Int.natCast_mul, h]; exact wrapL hp
theorem subI {a b c d y R : Nat} (h : a * 4294967296 + b = c + R) (hc : c = d * y) (hR : R < 18446744073709551616) :
  IntKind.u64.wrap (IntKind.u64.wrap (IntKind.u64.wrap ((a : Int) * 4294967296) + (b : Int)) - IntKind.u64.wrap ((d : Int) * (y : Int))) = (R : Int) := by
 rw [← Int.natCast_mul, ← hc]
 simp only [IntKind.wrap_u64]
 omega
theorem ret2_int {k k' : IntKind} {a b c d : Int} (h : a = b) (h' : c = d) : Ending.returned (.tuple #[.int k a, .int k' c]) = .returned (.tuple #[.int k b, .int k' d]) := by rw [h, h']
theorem small_mul {a b m : Nat} (ha : a < 4294967296) (hb : b < 4294967296) : a * b < 18446744073709551616 := by
 have := Lib.half_mul_le (a := a) (b := b) (by omega) (by omega)
 omega
set_option maxRecDepth 100000 in
theorem bitsDiv64_zero (lo y : Nat) (hl : lo < WB) (hy : y < WB) (h0 : 0 < y) (w : World) :
  Calls Tryz.prog 329 #[.int .u64 0, .int .u64 lo, .int .u64 y] w fun e w' => (e = .returned (.tuple #[.int .u64 (lo / y : Nat), .int .u64 (lo % y : Nat)])) ∧ ∃ n, w' = w.drewN n := by
 have hy0 : ¬ y = 0 := by omega
 have hyi : ¬ (y : Int) = 0 := by omega
 have hyp : (0 : Int) < y := by omega
 obtain ⟨q, hq⟩ : ∃ q, lo / y = q := ⟨_, rfl⟩
 obtain ⟨r, hr⟩ : ∃ r, lo % y = r := ⟨_, rfl⟩
 have e1 : (lo : Int) / (y : Int) = (q : Int) := quoI hq
 have e2 : (lo : Int) % (y : Int) = (r : Int) := by rw [← hr]; rfl
 have e3 := wrapW (show q < WB by rw [← hq]; exact Nat.lt_of_le_of_lt (Nat.div_le_self _ _) hl)
 have e4 := wrapW (show r < WB by rw [← hr]; exact Nat.lt_of_le_of_lt (Nat.mod_le _ _) hl)
 rw [hq, hr]
 clear hl hy hq hr
 go_enter Tryz.func329, Tryz.ntmps329
 go_wp2_with fail
 go_quiet (fail)
 go_wp2
 go_ret2
 refine ⟨?_, _, rfl⟩
 rw [← e2]
 rfl
set_option maxRecDepth 100000 in
set_option maxHeartbeats 2000000 in
theorem bitsDiv64_any (hi lo y : Nat) (hh : hi < y) (hh0 : hi ≠ 0) (hl : lo < WB) (hy : y < WB) (hy2 : WB ≤ 2 * y) (w : World) :
  Calls Tryz.prog 329 #[.int .u64 hi, .int .u64 lo, .int .u64 y] w fun e w' => e = .returned (.tuple #[.int .u64 ((hi * WB + lo) / y : Nat), .int .u64 ((hi * WB + lo) % y : Nat)]) ∧ w' = w := by
 have hlz := lz64_any y hy
 rw [nlz_zero hy2 hy] at hlz
 have hlz' := Lib.hid hlz
 clear hlz
 have hy0 : ¬ y = 0 := by omega
 have hyh : ¬ y ≤ hi := by omega
 have ey := wrapW hy
 have el := wrapW hl
 have eh := wrapW (Nat.lt_trans hh hy)
 have hw := WB_eq
 rw [hw] at hl hy hy2
 obtain ⟨y1, hy1⟩ : ∃ y1, y / 4294967296 = y1 := ⟨_, rfl⟩
 obtain ⟨y0, hy0'⟩ : ∃ y0, y % 4294967296 = y0 := ⟨_, rfl⟩
 obtain ⟨l1, hl1⟩ : ∃ l1, lo / 4294967296 = l1 := ⟨_, rfl⟩
 obtain ⟨l0, hl0⟩ : ∃ l0, lo % 4294967296 = l0 := ⟨_, rfl⟩
 have e1 : (y : Int) / 4294967296 = (y1 : Int) := by omega
 have e2 : bits .and .u64 (y : Int) 4294967295 = (y0 : Int) := by rw [Mul64.maskN y hy, hy0']
 have e3 : (lo : Int) / 4294967296 = (l1 : Int) := by omega
 have e4 : bits .and .u64 (lo : Int) 4294967295 = (l0 : Int) := by rw [Mul64.maskN lo hl, hl0]
 have e5 : bits .or .u64 (hi : Int) 0 = (hi : Int) := by
  have := bits_or_u64_nat hi 0 (by omega) (by omega)
  simpa using this
 have e6 : (lo : Int) / 18446744073709551616 = 0 := by omega
 have hy1p : ¬ (y1 : Int) = 0 := by omega
 have hye := Lib.hid (show y = y1 * 4294967296 + y0 by omega)
 have hyp := Lib.hid (show 0 < y by omega)
 have hy0l : y0 < 4294967296 := by omega
 have hy1n : 2147483648 ≤ y1 := by omega
 have hy1b : y1 < 4294967296 := by omega
 have hl1l : l1 < 4294967296 := by omega
 have hl0l : l0 < 4294967296 := by omega
 obtain ⟨Q, hQ⟩ : ∃ Q, Q = (hi * 4294967296 + l1) / y := ⟨_, rfl⟩
 obtain ⟨R, hR⟩ : ∃ R, R = (hi * 4294967296 + l1) % y := ⟨_, rfl⟩
 have hRl : R < y := by rw [hR]; exact Nat.mod_lt _ (by omega)
 have hQR : y * Q + R = hi * 4294967296 + l1 := by rw [hQ, hR]; exact Nat.div_add_mod _ _
 have hQlQ : Q < 4294967296 := by rw [hQ]; exact D32.quo_lt hl1l hh
 obtain ⟨Q0, hQ0⟩ : ∃ Q0, Q0 = (R * 4294967296 + l0) / y := ⟨_, rfl⟩
 obtain ⟨R0, hR0⟩ : ∃ R0, R0 = (R * 4294967296 + l0) % y := ⟨_, rfl⟩
 have hR0l : R0 < y := by rw [hR0]; exact Nat.mod_lt _ (by omega)
 have hQR0 : y * Q0 + R0 = R * 4294967296 + l0 := by rw [hQ0, hR0]; exact Nat.div_add_mod _ _
 have hQlQ0 : Q0 < 4294967296 := by rw [hQ0]; exact D32.quo_lt hl0l hRl
 obtain ⟨t1, t2⟩ := two_digits (lo := lo) (l0 := l0) hyp.out (show lo = l1 * 4294967296 + l0 by omega) hQR
 rw [← hQ0] at t1
 rw [← hR0] at t2
 have hSQ := Lib.hid (D32.start (u1 := l1) hye.out hy0l hl1l hy1n hh)
 have hSQ0 := Lib.hid (D32.start (u1 := l0) hye.out hy0l hl0l hy1n hRl)
 rw [← hQ] at hSQ
 rw [← hQ0] at hSQ0
 obtain ⟨q1, hq1⟩ : ∃ q1, hi / y1 = q1 := ⟨_, rfl⟩
 obtain ⟨r1, hr1⟩ : ∃ r1, hi % y1 = r1 := ⟨_, rfl⟩
 have hr1l : r1 < y1 := by rw [← hr1]; exact Nat.mod_lt _ (by omega)
 have hdm : y1 * q1 + r1 = hi := by rw [← hq1, ← hr1]; exact Nat.div_add_mod hi y1
 rw [hq1, hr1] at hSQ
 obtain ⟨q2, hq2⟩ : ∃ q2, R / y1 = q2 := ⟨_, rfl⟩
 obtain ⟨r3, hr3⟩ : ∃ r3, R % y1 = r3 := ⟨_, rfl⟩
 have hr3l : r3 < y1 := by rw [← hr3]; exact Nat.mod_lt _ (by omega)
 have hdm2 : y1 * q2 + r3 = R := by rw [← hq2, ← hr3]; exact Nat.div_add_mod R y1
 rw [hq2, hr3] at hSQ0
 have hq1b := hSQ.out.le
 have hq2b := hSQ0.out.le
 have e7 : (hi : Int) / (y1 : Int) = (q1 : Int) := quoI hq1
 have e8 := mulI (show q1 * y1 = hi - r1 by rw [Nat.mul_comm]; omega) (by omega)
 have e9 : (hi : Int) - ((hi - r1 : Nat) : Int) = (r1 : Int) := by omega
 have e10 := subI (show hi * 4294967296 + l1 = Q * y + R by rw [Nat.mul_comm Q]; omega) rfl (by omega)
 have e11 : (R : Int) / (y1 : Int) = (q2 : Int) := quoI hq2
 have e12 := mulI (show q2 * y1 = R - r3 by rw [Nat.mul_comm]; omega) (by omega)
 have e13 : (R : Int) - ((R - r3 : Nat) : Int) = (r3 : Int) := by omega
 have e14 := subI (show R * 4294967296 + l0 = Q0 * y + R0 by rw [Nat.mul_comm Q0]; omega) rfl (by omega)
 have e15 := wrapL (x := q1) (by omega)
 have e16 := wrapL (x := r1) (by omega)
 have e17 := wrapL (x := q2) (by omega)
 have e18 := wrapL (x := r3) (by omega)
 have e19 := wrapL (x := R0) (by omega)
 obtain ⟨A1, hA1⟩ : ∃ A1, (hi * WB + lo) / y = A1 := ⟨_, rfl⟩
 obtain ⟨A2, hA2⟩ : ∃ A2, (hi * WB + lo) % y = A2 := ⟨_, rfl⟩
 rw [hA1] at t1 ⊢
 rw [hA2] at t2 ⊢
 have hF1 := Lib.hid t1
 have hF2 := Lib.hid t2
 replace hQ := Lib.hid hQ
 replace hQ0 := Lib.hid hQ0
 clear hA1 hA2 hy hl hw hy2 hy1 hy0' hl1 hl0 hq1 hr1 hdm hq2 hr3 hdm2 t1 t2 hR hR0 hQR hQR0 hh hRl hR0l
 go_enter Tryz.func329, Tryz.ntmps329
 go_wp2_with fail
 refine (hlz'.out _).mono ?_
 rintro e w1 ⟨rfl, hw1⟩
 obtain rfl := hw1.symm
 go_wp2_with fail
 go_loop [15, 16] (fun a b => ∃ q r : Nat, a = .int .u64 q ∧ b = .int .u64 r ∧ D32 hi l1 y y1 y0 Q q r ∧ r < 4294967296) (fun a _ => (intOf a).toNat)
 case atStart => exact ⟨_, _, rfl, rfl, hSQ.out, by omega⟩
 case round =>
  obtain ⟨q, r, rfl, rfl, hD, hr⟩ := hrel
  have hqb := hD.le
  by_cases h1 : 4294967296 ≤ q
  ·have h1' : (4294967296 : Int) ≤ q := by omega
   obtain ⟨k, hk⟩ : ∃ k, q - 1 = k := ⟨_, rfl⟩
   have hD2 := hD.big hQlQ h1
   rw [hk] at hD2
   obtain ⟨r2, hr2⟩ : ∃ r2, r + y1 = r2 := ⟨_, rfl⟩
   rw [hr2] at hD2
   have er : (r : Int) + (y1 : Int) = (r2 : Int) := by omega
   have ek : (q : Int) - 1 = (k : Int) := by omega
   have hrb : r2 < 8589934592 := by omega
   have hkb : k ≤ 4294967296 := by omega
   by_cases h3 : 4294967296 ≤ r2
   ·have h3' : (4294967296 : Int) ≤ r2 := by omega
    have hQe : k = Q := by rw [hQ.out]; rw [hQ.out] at hD2; exact hD2.exact_break hye.out hyp.out hy0l hkb h3
    clear hD hD2 hr2 hk
    subst hQe
    go_wp2_with fail
    go_loop [18, 16] (fun a b => ∃ q r : Nat, a = .int .u64 q ∧ b = .int .u64 r ∧ D32 R l0 y y1 y0 Q0 q r ∧ r < 4294967296) (fun a _ => (intOf a).toNat)
    case atStart => exact ⟨_, _, rfl, rfl, hSQ0.out, by omega⟩
    case round =>
     obtain ⟨q, r, rfl, rfl, hD, hr⟩ := hrel
     have hqb := hD.le
     by_cases h1 : 4294967296 ≤ q
     ·have h1' : (4294967296 : Int) ≤ q := by omega
      obtain ⟨k, hk⟩ : ∃ k, q - 1 = k := ⟨_, rfl⟩
      have hD2 := hD.big hQlQ0 h1
      rw [hk] at hD2
      obtain ⟨r2, hr2⟩ : ∃ r2, r + y1 = r2 := ⟨_, rfl⟩
      rw [hr2] at hD2
      have er : (r : Int) + (y1 : Int) = (r2 : Int) := by omega
      have ek : (q : Int) - 1 = (k : Int) := by omega
      have hrb : r2 < 8589934592 := by omega
      have hkb : k ≤ 4294967296 := by omega
      by_cases h3 : 4294967296 ≤ r2
      ·have h3' : (4294967296 : Int) ≤ r2 := by omega
       have hQe : k = Q0 := by rw [hQ0.out]; rw [hQ0.out] at hD2; exact hD2.exact_break hye.out hyp.out hy0l hkb h3
       clear hD hD2 hr2 hk
       subst hQe
       go_wp2_with fail
       go_ret2
       exact ⟨ret2_int (by have := hF1.out; omega) (by have := hF2.out; omega), rfl⟩
      ·have h3' : ¬ (4294967296 : Int) ≤ r2 := by omega
       have hD2' := Lib.hid hD2
       clear hD hD2 hr2 hk
       go_wp2_with fail
       go_round
       case rel => exact ⟨k, r2, rfl, rfl, hD2'.out, by omega⟩
       case measure => simp [intOf]; omega
     ·have h1' : ¬ (4294967296 : Int) ≤ q := by omega
      obtain ⟨p, hp⟩ : ∃ p, q * y0 = p := ⟨_, rfl⟩
      have hpl : p < 18446744073709551616 := by rw [← hp]; exact small_mul (m := 0) (by omega) hy0l
      have ep := mulI hp hpl
      by_cases h2 : 4294967296 * r + l0 < p
      ·have h2' : (4294967296 : Int) * r + l0 < p := by omega
       have hD0 : D32 R l0 y y1 y0 Q0 (q - 1) (r + y1) := by rw [hQ0.out]; rw [hQ0.out] at hD; exact hD.over hye.out (by rw [hp]; exact h2)
       have hqp : 0 < q := by
        rcases Nat.eq_zero_or_pos q with e | e
        ·rw [e, Nat.zero_mul] at hp; omega
        ·exact e
       replace hp := Lib.hid hp
       obtain ⟨k, hk⟩ : ∃ k, q - 1 = k := ⟨_, rfl⟩
       have hD2 := hD0
       rw [hk] at hD2
       obtain ⟨r2, hr2⟩ : ∃ r2, r + y1 = r2 := ⟨_, rfl⟩
       rw [hr2] at hD2
       have er : (r : Int) + (y1 : Int) = (r2 : Int) := by omega
       have ek : (q : Int) - 1 = (k : Int) := by omega
       have hrb : r2 < 8589934592 := by omega
       have hkb : k ≤ 4294967296 := by omega
       by_cases h3 : 4294967296 ≤ r2
       ·have h3' : (4294967296 : Int) ≤ r2 := by omega
        have hQe : k = Q0 := by rw [hQ0.out]; rw [hQ0.out] at hD2; exact hD2.exact_break hye.out hyp.out hy0l hkb h3
        clear hD hD2 hr2 hk
        subst hQe
        go_wp2_with fail
        go_ret2
        exact ⟨ret2_int (by have := hF1.out; omega) (by have := hF2.out; omega), rfl⟩
       ·have h3' : ¬ (4294967296 : Int) ≤ r2 := by omega
        have hD2' := Lib.hid hD2
        clear hD hD2 hr2 hk
        go_wp2_with fail
        go_round
        case rel => exact ⟨k, r2, rfl, rfl, hD2'.out, by omega⟩
        case measure => simp [intOf]; omega
      ·have h2' : ¬ (4294967296 : Int) * r + l0 < p := by omega
       have hQe : q = Q0 := by rw [hQ0.out]; rw [hQ0.out] at hD; exact hD.exact_ hye.out hyp.out (by rw [hp]; omega)
       clear hD hp
       subst hQe
       go_wp2_with fail
       go_ret2
       exact ⟨ret2_int (by have := hF1.out; omega) (by have := hF2.out; omega), rfl⟩
   ·have h3' : ¬ (4294967296 : Int) ≤ r2 := by omega
    have hD2' := Lib.hid hD2
    clear hD hD2 hr2 hk
    go_wp2_with fail
    go_round
    case rel => exact ⟨k, r2, rfl, rfl, hD2'.out, by omega⟩
    case measure => simp [intOf]; omega
  ·have h1' : ¬ (4294967296 : Int) ≤ q := by omega
   obtain ⟨p, hp⟩ : ∃ p, q * y0 = p := ⟨_, rfl⟩
   have hpl : p < 18446744073709551616 := by rw [← hp]; exact small_mul (m := 0) (by omega) hy0l
   have ep := mulI hp hpl
   by_cases h2 : 4294967296 * r + l1 < p
   ·have h2' : (4294967296 : Int) * r + l1 < p := by omega
    have hD0 : D32 hi l1 y y1 y0 Q (q - 1) (r + y1) := by rw [hQ.out]; rw [hQ.out] at hD; exact hD.over hye.out (by rw [hp]; exact h2)
    have hqp : 0 < q := by
     rcases Nat.eq_zero_or_pos q with e | e
     ·rw [e, Nat.zero_mul] at hp; omega
     ·exact e
    replace hp := Lib.hid hp
    obtain ⟨k, hk⟩ : ∃ k, q - 1 = k := ⟨_, rfl⟩
    have hD2 := hD0
    rw [hk] at hD2
    obtain ⟨r2, hr2⟩ : ∃ r2, r + y1 = r2 := ⟨_, rfl⟩
    rw [hr2] at hD2
    have er : (r : Int) + (y1 : Int) = (r2 : Int) := by omega
    have ek : (q : Int) - 1 = (k : Int) := by omega
    have hrb : r2 < 8589934592 := by omega
    have hkb : k ≤ 4294967296 := by omega
    by_cases h3 : 4294967296 ≤ r2
    ·have h3' : (4294967296 : Int) ≤ r2 := by omega
     have hQe : k = Q := by rw [hQ.out]; rw [hQ.out] at hD2; exact hD2.exact_break hye.out hyp.out hy0l hkb h3
     clear hD hD2 hr2 hk
     subst hQe
     go_wp2_with fail
     go_loop [18, 16] (fun a b => ∃ q r : Nat, a = .int .u64 q ∧ b = .int .u64 r ∧ D32 R l0 y y1 y0 Q0 q r ∧ r < 4294967296) (fun a _ => (intOf a).toNat)
     case atStart => exact ⟨_, _, rfl, rfl, hSQ0.out, by omega⟩
     case round =>
      obtain ⟨q, r, rfl, rfl, hD, hr⟩ := hrel
      have hqb := hD.le
      by_cases h1 : 4294967296 ≤ q
      ·have h1' : (4294967296 : Int) ≤ q := by omega
       obtain ⟨k, hk⟩ : ∃ k, q - 1 = k := ⟨_, rfl⟩
       have hD2 := hD.big hQlQ0 h1
       rw [hk] at hD2
       obtain ⟨r2, hr2⟩ : ∃ r2, r + y1 = r2 := ⟨_, rfl⟩
       rw [hr2] at hD2
       have er : (r : Int) + (y1 : Int) = (r2 : Int) := by omega
       have ek : (q : Int) - 1 = (k : Int) := by omega
       have hrb : r2 < 8589934592 := by omega
       have hkb : k ≤ 4294967296 := by omega
       by_cases h3 : 4294967296 ≤ r2
       ·have h3' : (4294967296 : Int) ≤ r2 := by omega
        have hQe : k = Q0 := by rw [hQ0.out]; rw [hQ0.out] at hD2; exact hD2.exact_break hye.out hyp.out hy0l hkb h3
        clear hD hD2 hr2 hk
        subst hQe
        go_wp2_with fail
        go_ret2
        exact ⟨ret2_int (by have := hF1.out; omega) (by have := hF2.out; omega), rfl⟩
       ·have h3' : ¬ (4294967296 : Int) ≤ r2 := by omega
        have hD2' := Lib.hid hD2
        clear hD hD2 hr2 hk
        go_wp2_with fail
        go_round
        case rel => exact ⟨k, r2, rfl, rfl, hD2'.out, by omega⟩
        case measure => simp [intOf]; omega
      ·have h1' : ¬ (4294967296 : Int) ≤ q := by omega
       obtain ⟨p, hp⟩ : ∃ p, q * y0 = p := ⟨_, rfl⟩
       have hpl : p < 18446744073709551616 := by rw [← hp]; exact small_mul (m := 0) (by omega) hy0l
       have ep := mulI hp hpl
       by_cases h2 : 4294967296 * r + l0 < p
       ·have h2' : (4294967296 : Int) * r + l0 < p := by omega
        have hD0 : D32 R l0 y y1 y0 Q0 (q - 1) (r + y1) := by rw [hQ0.out]; rw [hQ0.out] at hD; exact hD.over hye.out (by rw [hp]; exact h2)
        have hqp : 0 < q := by
         rcases Nat.eq_zero_or_pos q with e | e
         ·rw [e, Nat.zero_mul] at hp; omega
         ·exact e
        replace hp := Lib.hid hp
        obtain ⟨k, hk⟩ : ∃ k, q - 1 = k := ⟨_, rfl⟩
        have hD2 := hD0
        rw [hk] at hD2
        obtain ⟨r2, hr2⟩ : ∃ r2, r + y1 = r2 := ⟨_, rfl⟩
        rw [hr2] at hD2
        have er : (r : Int) + (y1 : Int) = (r2 : Int) := by omega
        have ek : (q : Int) - 1 = (k : Int) := by omega
        have hrb : r2 < 8589934592 := by omega
        have hkb : k ≤ 4294967296 := by omega
        by_cases h3 : 4294967296 ≤ r2
        ·have h3' : (4294967296 : Int) ≤ r2 := by omega
         have hQe : k = Q0 := by rw [hQ0.out]; rw [hQ0.out] at hD2; exact hD2.exact_break hye.out hyp.out hy0l hkb h3
         clear hD hD2 hr2 hk
         subst hQe
         go_wp2_with fail
         go_ret2
         exact ⟨ret2_int (by have := hF1.out; omega) (by have := hF2.out; omega), rfl⟩
        ·have h3' : ¬ (4294967296 : Int) ≤ r2 := by omega
         have hD2' := Lib.hid hD2
         clear hD hD2 hr2 hk
         go_wp2_with fail
         go_round
         case rel => exact ⟨k, r2, rfl, rfl, hD2'.out, by omega⟩
         case measure => simp [intOf]; omega
       ·have h2' : ¬ (4294967296 : Int) * r + l0 < p := by omega
        have hQe : q = Q0 := by rw [hQ0.out]; rw [hQ0.out] at hD; exact hD.exact_ hye.out hyp.out (by rw [hp]; omega)
        clear hD hp
        subst hQe
        go_wp2_with fail
        go_ret2
        exact ⟨ret2_int (by have := hF1.out; omega) (by have := hF2.out; omega), rfl⟩
    ·have h3' : ¬ (4294967296 : Int) ≤ r2 := by omega
     have hD2' := Lib.hid hD2
     clear hD hD2 hr2 hk
     go_wp2_with fail
     go_round
     case rel => exact ⟨k, r2, rfl, rfl, hD2'.out, by omega⟩
     case measure => simp [intOf]; omega
   ·have h2' : ¬ (4294967296 : Int) * r + l1 < p := by omega
    have hQe : q = Q := by rw [hQ.out]; rw [hQ.out] at hD; exact hD.exact_ hye.out hyp.out (by rw [hp]; omega)
    clear hD hp
    subst hQe
    go_wp2_with fail
    go_loop [18, 16] (fun a b => ∃ q r : Nat, a = .int .u64 q ∧ b = .int .u64 r ∧ D32 R l0 y y1 y0 Q0 q r ∧ r < 4294967296) (fun a _ => (intOf a).toNat)
    case atStart => exact ⟨_, _, rfl, rfl, hSQ0.out, by omega⟩
    case round =>
     obtain ⟨q, r, rfl, rfl, hD, hr⟩ := hrel
     have hqb := hD.le
     by_cases h1 : 4294967296 ≤ q
     ·have h1' : (4294967296 : Int) ≤ q := by omega
      obtain ⟨k, hk⟩ : ∃ k, q - 1 = k := ⟨_, rfl⟩
      have hD2 := hD.big hQlQ0 h1
      rw [hk] at hD2
      obtain ⟨r2, hr2⟩ : ∃ r2, r + y1 = r2 := ⟨_, rfl⟩
      rw [hr2] at hD2
      have er : (r : Int) + (y1 : Int) = (r2 : Int) := by omega
      have ek : (q : Int) - 1 = (k : Int) := by omega
      have hrb : r2 < 8589934592 := by omega
      have hkb : k ≤ 4294967296 := by omega
      by_cases h3 : 4294967296 ≤ r2
      ·have h3' : (4294967296 : Int) ≤ r2 := by omega
       have hQe : k = Q0 := by rw [hQ0.out]; rw [hQ0.out] at hD2; exact hD2.exact_break hye.out hyp.out hy0l hkb h3
       clear hD hD2 hr2 hk
       subst hQe
       go_wp2_with fail
       go_ret2
       exact ⟨ret2_int (by have := hF1.out; omega) (by have := hF2.out; omega), rfl⟩
      ·have h3' : ¬ (4294967296 : Int) ≤ r2 := by omega
       have hD2' := Lib.hid hD2
       clear hD hD2 hr2 hk
       go_wp2_with fail
       go_round
       case rel => exact ⟨k, r2, rfl, rfl, hD2'.out, by omega⟩
       case measure => simp [intOf]; omega
     ·have h1' : ¬ (4294967296 : Int) ≤ q := by omega
      obtain ⟨p, hp⟩ : ∃ p, q * y0 = p := ⟨_, rfl⟩
      have hpl : p < 18446744073709551616 := by rw [← hp]; exact small_mul (m := 0) (by omega) hy0l
      have ep := mulI hp hpl
      by_cases h2 : 4294967296 * r + l0 < p
      ·have h2' : (4294967296 : Int) * r + l0 < p := by omega
       have hD0 : D32 R l0 y y1 y0 Q0 (q - 1) (r + y1) := by rw [hQ0.out]; rw [hQ0.out] at hD; exact hD.over hye.out (by rw [hp]; exact h2)
       have hqp : 0 < q := by
        rcases Nat.eq_zero_or_pos q with e | e
        ·rw [e, Nat.zero_mul] at hp; omega
        ·exact e
       replace hp := Lib.hid hp
       obtain ⟨k, hk⟩ : ∃ k, q - 1 = k := ⟨_, rfl⟩
       have hD2 := hD0
       rw [hk] at hD2
       obtain ⟨r2, hr2⟩ : ∃ r2, r + y1 = r2 := ⟨_, rfl⟩
       rw [hr2] at hD2
       have er : (r : Int) + (y1 : Int) = (r2 : Int) := by omega
       have ek : (q : Int) - 1 = (k : Int) := by omega
       have hrb : r2 < 8589934592 := by omega
       have hkb : k ≤ 4294967296 := by omega
       by_cases h3 : 4294967296 ≤ r2
       ·have h3' : (4294967296 : Int) ≤ r2 := by omega
        have hQe : k = Q0 := by rw [hQ0.out]; rw [hQ0.out] at hD2; exact hD2.exact_break hye.out hyp.out hy0l hkb h3
        clear hD hD2 hr2 hk
        subst hQe
        go_wp2_with fail
        go_ret2
        exact ⟨ret2_int (by have := hF1.out; omega) (by have := hF2.out; omega), rfl⟩
       ·have h3' : ¬ (4294967296 : Int) ≤ r2 := by omega
        have hD2' := Lib.hid hD2
        clear hD hD2 hr2 hk
        go_wp2_with fail
        go_round
        case rel => exact ⟨k, r2, rfl, rfl, hD2'.out, by omega⟩
        case measure => simp [intOf]; omega
      ·have h2' : ¬ (4294967296 : Int) * r + l0 < p := by omega
       have hQe : q = Q0 := by rw [hQ0.out]; rw [hQ0.out] at hD; exact hD.exact_ hye.out hyp.out (by rw [hp]; omega)
       clear hD hp
       subst hQe
       go_wp2_with fail
       go_ret2
       exact ⟨ret2_int (by have := hF1.out; omega) (by have := hF2.out; omega), rfl⟩end Go.Proofs.YtgamldefngehlaaGreatDoor
