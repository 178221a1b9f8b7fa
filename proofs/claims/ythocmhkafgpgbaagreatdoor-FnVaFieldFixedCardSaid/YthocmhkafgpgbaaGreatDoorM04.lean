/- Parts of the walk. -/
import Derived.Test.YthocmhkafgpgbaaGreatDoorM03
import Derived.Lib.ItoaNum
import Derived.Laws.Bits64b
set_option linter.unusedVariables false
set_option linter.unusedSimpArgs false
namespace Go.Proofs.YthocmhkafgpgbaaGreatDoor
open Go.RowKit
def nlzN (x : Nat) : Nat := 64 - Lib.bitLen x
theorem bitLen_bounds {x : Nat} (h0 : x ≠ 0) (h : x < WB) : 1 ≤ Lib.bitLen x ∧ 2 ^ (Lib.bitLen x - 1) ≤ x ∧ x < 2 ^ Lib.bitLen x ∧ Lib.bitLen x ≤ 64 := by
 rw [WB_eq] at h
 obtain ⟨a, b, c⟩ := Lib.bitLenAux_bounds 64 x (by omega) h0
 exact ⟨a, b, c, Lib.bitLen_le x 64 (Nat.le_refl _) (by omega)⟩
theorem nlz_le {x : Nat} (h0 : x ≠ 0) (h : x < WB) : nlzN x ≤ 63 := by
 have := bitLen_bounds h0 h; unfold nlzN; omega
theorem nlz_norm {x : Nat} (h0 : x ≠ 0) (h : x < WB) : x * 2 ^ nlzN x < WB ∧ WB ≤ 2 * (x * 2 ^ nlzN x) := by
 obtain ⟨h1, h2, h3, h4⟩ := bitLen_bounds h0 h
 have e : WB = 2 ^ Lib.bitLen x * 2 ^ nlzN x := by
  unfold nlzN
  rw [← Nat.pow_add, show Lib.bitLen x + (64 - Lib.bitLen x) = 64 by omega, WB_eq]
 constructor
 ·rw [e]; exact Nat.mul_lt_mul_of_pos_right h3 (two_pos _)
 ·rw [e, ← Nat.mul_assoc]
  refine Nat.mul_le_mul_right _ ?_
  have : 2 ^ Lib.bitLen x = 2 * 2 ^ (Lib.bitLen x - 1) := by
   conv => lhs; rw [show Lib.bitLen x = Lib.bitLen x - 1 + 1 by omega]
   rw [Nat.pow_succ, Nat.mul_comm]
  omega
theorem nlz_zero {x : Nat} (h0 : WB ≤ 2 * x) (h : x < WB) : nlzN x = 0 := by
 have hw := WB_pos
 obtain ⟨h1, h2, h3, h4⟩ := bitLen_bounds (show x ≠ 0 by omega) h
 have : ¬ Lib.bitLen x ≤ 63 := fun hl => by
  have := Nat.lt_of_lt_of_le h3 (Nat.pow_le_pow_right (by omega) hl)
  rw [WB_eq] at h0
  omega
 unfold nlzN; omega
theorem nlz_any (x : Nat) (hx : x < WB) (w : World) : Calls Tryz.prog 282 #[.int .u64 x] w fun e w' => e = .returned (.int .u64 (nlzN x : Nat)) ∧ w' = w := by
 have hl : Lib.bitLen x ≤ 64 := by rw [WB_eq] at hx; exact Lib.bitLen_le x 64 (by omega) (by omega)
 have e1 := wrapW hx
 have e2 : IntKind.u64.wrap (64 - (Lib.bitLen x : Int)) = (nlzN x : Int) := by
  rw [IntKind.wrap_u64]; unfold nlzN; omega
 have hP := Lib.hid (bitsLz x hx w)
 clear hx hl
 go_enter Tryz.func282, Tryz.ntmps282
 go_wp2_with fail
 refine hP.out.mono ?_
 rintro e w' ⟨rfl, rfl⟩
 go_wp2
 go_ret
 exact ⟨rfl, rfl⟩
theorem lz64_any (x : Nat) (hx : x < WB) (w : World) : Calls Tryz.prog 346 #[.int .u64 x] w fun e w' => e = .returned (.int .i64 (nlzN x : Nat)) ∧ w' = w := by
 have hl : Lib.bitLen x ≤ 64 := by rw [WB_eq] at hx; exact Lib.bitLen_le x 64 (by omega) (by omega)
 have e2 : (64 : Int) - (Lib.bitLen x : Int) = (nlzN x : Int) := by unfold nlzN; omega
 have hP := Lib.hid (Any.bits_Len64 { laysLz with } x w (by omega) (by rw [WB_eq] at hx; omega))
 clear hx
 go_enter Tryz.func346, Tryz.ntmps346
 go_wp2_with fail
 refine hP.out.mono ?_
 rintro e w' ⟨rfl, rfl⟩
 rw [Int.toNat_natCast]
 go_wp2
 go_ret
 exact ⟨rfl, rfl⟩
end Go.Proofs.YthocmhkafgpgbaaGreatDoor
namespace Go.Proofs.YthocmhkafgpgbaaGreatDoor
open Go.RowKit
def expV (e s : Nat) : Nat := e % 2 ^ s * 2 ^ (64 - s)
theorem expV_lt (e : Nat) {s : Nat} (h : s ≤ 64) : expV e s < WB := by
 rw [WB_split h]
 exact Nat.mul_lt_mul_of_pos_right (Nat.mod_lt _ (two_pos _)) (two_pos _)
theorem expV_split (e : Nat) {s : Nat} (h : s ≤ 63) : expV e (s + 1) = e / 2 ^ s % 2 * 2 ^ 63 + e % 2 ^ s * 2 ^ (63 - s) := by
 unfold expV
 rw [Nat.mod_pow_succ, Nat.add_mul, show 64 - (s + 1) = 63 - s by omega]
 have : 2 ^ s * 2 ^ (63 - s) = 2 ^ 63 := by rw [← Nat.pow_add, show s + (63 - s) = 63 by omega]
 rw [Nat.mul_right_comm, this]
 rw [Nat.mul_comm (2 ^ 63)]
 omega
theorem expV_rest (e : Nat) {s : Nat} (h : s ≤ 63) : expV e s = 2 * (e % 2 ^ s * 2 ^ (63 - s)) ∧ e % 2 ^ s * 2 ^ (63 - s) < 2 ^ 63 := by
 have h1 : expV e s = 2 * (e % 2 ^ s * 2 ^ (63 - s)) := by
  unfold expV
  rw [show 64 - s = 63 - s + 1 by omega, Nat.pow_succ]
  rw [← Nat.mul_assoc, Nat.mul_comm _ 2]
 refine ⟨h1, ?_⟩
 have := expV_lt e (show s ≤ 64 by omega)
 rw [WB_eq] at this
 omega
theorem and_top {b r : Nat} (hb : b = 0 ∨ b = 1) (hr : r < 2 ^ 63) : (b * 2 ^ 63 + r) &&& 2 ^ 63 = b * 2 ^ 63 := by
 have h63 := Nat.testBit_lt_two_pow hr
 refine Nat.eq_of_testBit_eq fun i => ?_
 rw [Nat.testBit_and, Nat.testBit_two_pow]
 by_cases e : 63 = i
 ·subst e
  rcases hb with rfl | rfl
  ·simp [h63]
  ·rw [Nat.one_mul, Nat.testBit_two_pow_add_eq, h63, Nat.testBit_two_pow_self]; rfl
 ·rcases hb with rfl | rfl
  ·simp [e]
  ·rw [Nat.one_mul, Nat.testBit_two_pow]; simp [e]
theorem expV_and (e : Nat) {s : Nat} (h : s ≤ 63) : bits .and .u64 (expV e (s + 1) : Int) 9223372036854775808 = ((e / 2 ^ s % 2 * 9223372036854775808 : Nat) : Int) := by
 have hl := expV_lt e (show s + 1 ≤ 64 by omega)
 rw [show (9223372036854775808 : Int) = ((9223372036854775808 : Nat) : Int) from rfl, bits_and_u64_nat _ _ (by rw [WB_eq] at hl; exact hl) (by omega)]
 congr 1
 have hs := expV_split e h
 obtain ⟨-, hr⟩ := expV_rest e h
 rw [hs]
 exact and_top (by omega) hr
theorem expV_shl (e : Nat) {s : Nat} (h : s ≤ 63) : IntKind.u64.wrap ((expV e (s + 1) : Int) * 2) = (expV e s : Int) := by
 have hs := expV_split e h
 obtain ⟨h1, hr⟩ := expV_rest e h
 have hb : e / 2 ^ s % 2 < 2 := Nat.mod_lt _ (by omega)
 rw [IntKind.wrap_u64]
 have : e / 2 ^ s % 2 = 0 ∨ e / 2 ^ s % 2 = 1 := by omega
 rcases this with h | h <;> rw [h] at hs <;> omega
theorem exp_half (a e s : Nat) : a ^ (e / 2 ^ s) = a ^ (e / 2 ^ (s + 1)) * a ^ (e / 2 ^ (s + 1)) * a ^ (e / 2 ^ s % 2) := by
 rw [← Nat.pow_add, ← Nat.pow_add]
 congr 1
 rw [Nat.pow_succ, ← Nat.div_div_eq_div_mul]
 omega
theorem expV_start {e : Nat} (h0 : e ≠ 0) (h : e < WB) : shlN e (nlzN e + 1) = expV e (63 - nlzN e) ∧ e / 2 ^ (63 - nlzN e) = 1 ∧ nlzN e ≤ 63 := by
 have h63 := nlz_le h0 h
 obtain ⟨h1, h2, h3, h4⟩ := bitLen_bounds h0 h
 have hn : nlzN e = 64 - Lib.bitLen e := rfl
 refine ⟨?_, ?_, h63⟩
 ·unfold shlN expV
  rw [shl_low (by omega)]
  rw [show 64 - (nlzN e + 1) = 63 - nlzN e by omega, show 64 - (63 - nlzN e) = nlzN e + 1 by omega]
 ·rw [show 63 - nlzN e = Lib.bitLen e - 1 by omega]
  refine Nat.div_eq_of_lt_le (by omega) ?_
  have : 2 ^ Lib.bitLen e = (1 + 1) * 2 ^ (Lib.bitLen e - 1) := by
   conv => lhs; rw [show Lib.bitLen e = Lib.bitLen e - 1 + 1 by omega]
   rw [Nat.pow_succ, Nat.mul_comm]
  omega
theorem pow_le_bits (a : Nat) (h : 0 < a) (e s : Nat) : a ^ (e / 2 ^ s) ≤ a ^ e := Nat.pow_le_pow_right h (Nat.div_le_self _ _)
end Go.Proofs.YthocmhkafgpgbaaGreatDoor
