/- Parts of the walk. -/
import Derived.Test.YtgamldefngehlaaGreatDoorM02
import Derived.Laws.FloatArith
set_option linter.unusedVariables false
set_option linter.unusedSimpArgs false
namespace Go.Proofs.YtgamldefngehlaaGreatDoor
theorem ten_pos (k : Nat) : 0 < 10 ^ k := Nat.pow_pos (by omega)
theorem ten_lt {a b : Nat} (h : 10 ^ a < 10 ^ b) : a < b := (Nat.pow_lt_pow_iff_right (by omega)).1 h
def nd (n : Nat) : Nat := (digs 10 n).length
theorem dec_exact {p d w k1 k2 al be t : Nat} (h : p * 10 ^ k1 = d * w * 10 ^ k2) (he : al + k2 = t + k1 + be) : p * 10 ^ al = d * 10 ^ be * (w * 10 ^ t) := by
 refine Nat.eq_of_mul_eq_mul_right (ten_pos k1) ?_
 calc p * 10 ^ al * 10 ^ k1 = p * 10 ^ k1 * 10 ^ al := Nat.mul_right_comm _ _ _
  _ = d * w * 10 ^ k2 * 10 ^ al := by rw [h]
  _ = d * w * 10 ^ (al + k2) := by rw [Nat.mul_assoc, ← Nat.pow_add, Nat.add_comm]
  _ = d * w * 10 ^ (t + k1 + be) := by rw [he]
  _ = d * w * (10 ^ t * 10 ^ k1 * 10 ^ be) := by rw [Nat.pow_add, Nat.pow_add]
  _ = d * 10 ^ be * (w * 10 ^ t) * 10 ^ k1 := by ac_rfl
theorem dec_low {p d w k1 k2 x1 x2 : Nat} (h : p * 10 ^ k1 = d * w * 10 ^ k2) (hd : 0 < d) (hw : w < 10 ^ 34) (hx : 10 ^ x1 * d ≤ p * 10 ^ x2) : x1 + k1 < 34 + k2 + x2 := by
 refine ten_lt ?_
 refine Nat.lt_of_mul_lt_mul_left (a := d) ?_
 calc d * 10 ^ (x1 + k1) = 10 ^ x1 * d * 10 ^ k1 := by rw [Nat.pow_add]; ac_rfl
  _ ≤ p * 10 ^ x2 * 10 ^ k1 := Nat.mul_le_mul_right _ hx
  _ = p * 10 ^ k1 * 10 ^ x2 := Nat.mul_right_comm _ _ _
  _ = d * (w * 10 ^ (k2 + x2)) := by rw [h, Nat.pow_add]; ac_rfl
  _ < d * (10 ^ 34 * 10 ^ (k2 + x2)) := (Nat.mul_lt_mul_left hd).2 (Nat.mul_lt_mul_of_pos_right hw (ten_pos _))
  _ = d * 10 ^ (34 + k2 + x2) := by rw [← Nat.pow_add, Nat.add_assoc]
theorem dec_shift_pos {p d Da Db s : Nat} (ha : 10 ^ (Da - 1) ≤ p) (hb : d < 10 ^ Db) (hs : Da = Db + s) (h1 : 1 ≤ s) : 10 ^ (s - 1) * d ≤ p := by
 refine Nat.le_trans ?_ ha
 rw [show Da - 1 = s - 1 + Db by omega, Nat.pow_add]
 exact Nat.mul_le_mul_left _ (Nat.le_of_lt hb)
theorem dec_shift_neg {p d Da Db s : Nat} (ha : 10 ^ (Da - 1) ≤ p) (hb : d < 10 ^ Db) (hs : Db = Da + s) (h1 : 1 ≤ Da) : d ≤ p * 10 ^ (s + 1) := by
 refine Nat.le_trans (Nat.le_of_lt hb) ?_
 rw [show Db = (Da - 1) + (s + 1) by omega, Nat.pow_add]
 exact Nat.mul_le_mul_right _ ha
theorem dec_norm_le {m w j t : Nat} (h : m * 10 ^ j = w * 10 ^ t) (hm : m % 10 ≠ 0 ∨ t ≤ j) : m ≤ w := by
 have key : t ≤ j → m ≤ w := fun htj => by
  obtain ⟨k, rfl⟩ := Nat.exists_eq_add_of_le htj
  rw [Nat.pow_add, ← Nat.mul_assoc, Nat.mul_right_comm] at h
  have := Nat.eq_of_mul_eq_mul_right (ten_pos t) h
  rw [← this]
  exact Nat.le_mul_of_pos_right _ (ten_pos k)
 rcases hm with hm | hm
 ·rcases Nat.lt_or_ge j t with hlt | hge
  ·obtain ⟨k, rfl⟩ : ∃ k, t = j + (k + 1) := ⟨t - j - 1, by omega⟩
   rw [Nat.pow_add, Nat.pow_succ, ← Nat.mul_assoc, Nat.mul_right_comm w] at h
   have := Nat.eq_of_mul_eq_mul_right (ten_pos j) (by rw [h]; ac_rfl : m * 10 ^ j = w * 10 ^ k * 10 * 10 ^ j)
   exact absurd (by rw [this]; exact Nat.mul_mod_left _ _) hm
  ·exact key hge
 ·exact key hm
theorem dec_exp_lt {m w j t : Nat} (h : m * 10 ^ j = w * 10 ^ t) (hm : m ≠ 0) (hw : w < 10 ^ 34) : j < 34 + t := by
 refine ten_lt (Nat.lt_of_le_of_lt (Nat.le_mul_of_pos_left _ (Nat.pos_of_ne_zero hm)) ?_)
 rw [h, Nat.pow_add]
 exact Nat.mul_lt_mul_of_pos_right hw (ten_pos t)
end Go.Proofs.YtgamldefngehlaaGreatDoor
namespace Go.Proofs.YtgamldefngehlaaGreatDoor
theorem cv_few {n w k1 k2 Da : Nat} (h : n * 10 ^ k1 = 1 * w * 10 ^ k2) (hw : w < 10 ^ 34) (h2 : 1 ≤ Da) (hn : 10 ^ (Da - 1) ≤ n) (hD : Da ≤ 34) :
  ∃ t, n * 10 ^ (34 - Da) = w * 10 ^ t ∧ 34 - Da + k2 = t + k1 := by
 have h1 := dec_low (x1 := Da - 1) (x2 := 0) h (by omega) hw (by rw [Nat.mul_one, Nat.pow_zero, Nat.mul_one]; exact hn)
 refine ⟨34 - Da + k2 - k1, ?_, by omega⟩
 have := dec_exact (al := 34 - Da) (be := 0) (t := 34 - Da + k2 - k1) h (by omega)
 simpa only [Nat.one_mul, Nat.pow_zero, Nat.mul_one] using this
theorem cv_many {n w k1 k2 Da : Nat} (h : n * 10 ^ k1 = 1 * w * 10 ^ k2) (hw : w < 10 ^ 34) (hn : 10 ^ (Da - 1) ≤ n) (hD : 34 < Da) :
  ∃ t, n = 10 ^ (Da - 34) * (w * 10 ^ t) ∧ k2 = t + k1 + (Da - 34) := by
 have h1 := dec_low (x1 := Da - 1) (x2 := 0) h (by omega) hw (by rw [Nat.mul_one, Nat.pow_zero, Nat.mul_one]; exact hn)
 refine ⟨k2 - k1 - (Da - 34), ?_, by omega⟩
 have := dec_exact (al := 0) (be := Da - 34) (t := k2 - k1 - (Da - 34)) h (by omega)
 simpa only [Nat.one_mul, Nat.pow_zero, Nat.mul_one] using this
theorem cv_ge {n d w k1 k2 al be : Nat} (h : n * 10 ^ k1 = d * w * 10 ^ k2) (hd : 0 < d) (hw : w < 10 ^ 34) (hx : d * 10 ^ be ≤ n * 10 ^ al) :
  ∃ t, n * 10 ^ (al + 33) = d * 10 ^ be * (w * 10 ^ t) ∧ al + 33 + k2 = t + k1 + be := by
 have h1 := dec_low (x1 := be) (x2 := al) h hd hw (by rwa [Nat.mul_comm (10 ^ be)])
 exact ⟨al + 33 + k2 - k1 - be, dec_exact h (by omega), by omega⟩
theorem cv_lt {n d w k1 k2 al be Da Db : Nat} (h : n * 10 ^ k1 = d * w * 10 ^ k2) (hd : 0 < d) (hw : w < 10 ^ 34) (hD : 1 ≤ Da) (hn : 10 ^ (Da - 1) ≤ n) (hdb : d < 10 ^ Db) (hs : Da + al = Db + be) (h0 : al = 0 ∨ be = 0) :
  ∃ t, n * 10 ^ (al + 34) = d * 10 ^ be * (w * 10 ^ t) ∧ al + 34 + k2 = t + k1 + be := by
 have h1 : be + k1 ≤ 34 + k2 + al := by
  by_cases h1 : 1 ≤ be
  ·have h2 := dec_low (x1 := be - 1) (x2 := 0) h hd hw (by rw [Nat.pow_zero, Nat.mul_one]; exact dec_shift_pos hn hdb (by omega) h1)
   omega
  ·have h2 := dec_low (x1 := 0) (x2 := al + 1) h hd hw (by rw [Nat.pow_zero, Nat.one_mul]; exact dec_shift_neg hn hdb (by omega) hD)
   omega
 exact ⟨al + 34 + k2 - k1 - be, dec_exact h (by omega), by omega⟩
theorem cv_strip {m w j t : Nat} (h : m * 10 ^ j = w * 10 ^ t) (h0 : m % 10 = 0) : m / 10 * 10 ^ (j + 1) = w * 10 ^ t := by
 rw [Nat.pow_succ, Nat.mul_comm (10 ^ j), ← Nat.mul_assoc, Nat.div_mul_cancel (Nat.dvd_of_mod_eq_zero h0)]
 exact h
end Go.Proofs.YtgamldefngehlaaGreatDoor
namespace Go.Proofs.YtgamldefngehlaaGreatDoor
structure CvUp (E0 sh : Int) (n1 d1 w k1 k2 al be t : Nat) : Prop where
 gap : E0 - 33 - sh = (be : Int) - al
 one : al = 0 ∨ be = 0
 up : 0 < be → 33 < E0
 same : al = 0 → be = 0 → E0 ≤ 33
 eq : n1 * 10 ^ al = d1 * 10 ^ be * (w * 10 ^ t)
 exp : E0 - 33 = (k2 : Int) - k1 - t
 e1 : -200 ≤ E0
 e2 : E0 ≤ 200
 s1 : -200 ≤ sh
 s2 : sh ≤ 200
 ala : al ≤ 34
 bea : be ≤ 60
 ln1 : (digs WB n1).length ≤ 11
 ln : (digs WB (n1 * 10 ^ al)).length ≤ 11
 ld1 : (digs WB d1).length ≤ 4
 ld : (digs WB (d1 * 10 ^ be)).length ≤ 4
theorem pow_small {k : Nat} (h : k ≤ 60) : 10 ^ k < WB ^ 4 := Nat.lt_of_le_of_lt (Nat.pow_le_pow_right (by omega) h) (by rw [WB_eq]; decide +kernel)
theorem pow_mid {k : Nat} (h : k ≤ 112) : 10 ^ k < WB ^ 6 := Nat.lt_of_le_of_lt (Nat.pow_le_pow_right (by omega) h) (by rw [WB_eq]; decide +kernel)
theorem len_up {n k : Nat} (hn : (digs WB n).length ≤ 5) (hk : k ≤ 112) : (digs WB (n * 10 ^ k)).length ≤ 11 := by
 refine (digs_length_le WB_one).2 ?_
 rw [show (11 : Nat) = 5 + 6 from rfl, Nat.pow_add]
 exact Nat.mul_lt_mul'' ((digs_length_le WB_one).1 hn) (pow_mid hk)
theorem len_prod {a b i j : Nat} (h1 : (digs WB a).length ≤ i) (h2 : (digs WB b).length ≤ j) : (digs WB (a * b)).length ≤ i + j := by
 refine (digs_length_le WB_one).2 ?_
 rw [Nat.pow_add]
 exact Nat.mul_lt_mul'' ((digs_length_le WB_one).1 h1) ((digs_length_le WB_one).1 h2)
theorem len_ten {k : Nat} (h : k ≤ 130) : (digs WB (10 ^ k)).length ≤ 9 := (digs_length_le WB_one).2 (Nat.lt_of_le_of_lt (Nat.pow_le_pow_right (by omega) h) (by rw [WB_eq]; decide +kernel))
theorem CvUp.whole {n w k1 k2 D : Nat} (h : n * 10 ^ k1 = 1 * w * 10 ^ k2) (hw : w < 10 ^ 34) (h1 : k1 ≤ 60) (h2 : k2 ≤ 60) (hD1 : 1 ≤ D) (hD2 : D ≤ 130) (hn : 10 ^ (D - 1) ≤ n) (hl : (digs WB n).length ≤ 5) : ∃ al be t, CvUp ((D : Int) - 1) 0 n 1 w k1 k2 al be t := by
 have l1 : (digs WB 1).length ≤ 4 := (digs_length_le WB_one).2 (by rw [WB_eq]; decide)
 by_cases hD : D ≤ 34
 ·obtain ⟨t, he, ht⟩ := cv_few h hw hD1 hn hD
  exact ⟨34 - D, 0, t, by omega, .inr rfl, by omega, by omega, by rw [he]; simp, by omega, by omega, by omega, by omega, by omega, by omega, by omega, by omega, len_up hl (by omega), l1, by simpa using l1⟩
 ·obtain ⟨t, he, ht⟩ := cv_many h hw hn (by omega)
  exact ⟨0, D - 34, t, by omega, .inl rfl, by omega, by omega, by rw [Nat.pow_zero, Nat.mul_one, Nat.one_mul]; exact he, by omega, by omega, by omega, by omega, by omega, by omega, by omega, by omega, by simpa using (show (digs WB n).length ≤ 11 by omega), l1, by rw [Nat.one_mul]; exact (digs_length_le WB_one).2 (pow_small (by omega))⟩
theorem CvUp.dlen {n d Da Db y : Nat} (hld : (digs WB d).length ≤ 4) (hln : (digs WB n).length ≤ 3) (hn : 10 ^ (Da - 1) ≤ n) (hD : 1 ≤ Da) (hdb : d < 10 ^ Db) (hs : y = 0 ∨ Da = Db + y) : (digs WB (d * 10 ^ y)).length ≤ 4 := by
 rcases hs with rfl | hs
 ·simpa using hld
 ·refine (digs_length_le WB_one).2 ?_
  have h3 := (digs_length_le WB_one).1 hln
  have h1 : d * 10 ^ y < 10 ^ Db * 10 ^ y := Nat.mul_lt_mul_of_pos_right hdb (ten_pos y)
  rw [← Nat.pow_add, ← hs] at h1
  have h2 : 10 ^ Da = 10 ^ (Da - 1) * 10 := by rw [← Nat.pow_succ]; congr 1; omega
  have h4 : WB ^ 4 = WB ^ 3 * WB := Nat.pow_succ ..
  have h5 : 10 ≤ WB := by rw [WB_eq]; decide
  calc d * 10 ^ y ≤ 10 ^ (Da - 1) * 10 := by omega
   _ ≤ n * 10 := Nat.mul_le_mul_right _ hn
   _ ≤ n * WB := Nat.mul_le_mul_left _ h5
   _ < WB ^ 3 * WB := Nat.mul_lt_mul_of_pos_right h3 WB_pos
   _ = WB ^ 4 := h4.symm
theorem CvUp.deep {d Db : Nat} (hld : (digs WB d).length ≤ 4) (hd : 10 ^ (Db - 1) ≤ d) : Db ≤ 78 := by
 have h1 := (digs_length_le WB_one).1 hld
 have h2 : WB ^ 4 < 10 ^ 78 := by rw [WB_eq]; decide +kernel
 have := ten_lt (Nat.lt_of_le_of_lt hd (Nat.lt_trans h1 h2))
 omega
theorem CvUp.frac {n d w k1 k2 x y Da Db : Nat} (lt : Bool) (h : n * 10 ^ k1 = d * w * 10 ^ k2) (hd : 0 < d) (hw : w < 10 ^ 34) (h1 : k1 ≤ 60) (h2 : k2 ≤ 60) (hD : 1 ≤ Da) (hDa : Da ≤ 130) (hn : 10 ^ (Da - 1) ≤ n) (hdb : d < 10 ^ Db) (hdb1 : 10 ^ (Db - 1) ≤ d) (hxy : Da + x = Db + y) (h0 : x = 0 ∨ y = 0)
  (hln : (digs WB n).length ≤ 3) (hld : (digs WB d).length ≤ 4) (hge : lt = false → d * 10 ^ y ≤ n * 10 ^ x) : ∃ t, CvUp ((y : Int) - x - (if lt = true then 1 else 0)) ((y : Int) - x) (n * 10 ^ x) (d * 10 ^ y) w k1 k2 (if lt = true then 34 else 33) 0 t := by
 have hdp := CvUp.deep hld hdb1
 have hl4 : (digs WB (d * 10 ^ y)).length ≤ 4 := CvUp.dlen hld hln hn hD hdb (by rcases h0 with e | e <;> omega)
 have hx : x ≤ 78 := by rcases h0 with e | e <;> omega
 have hy : y ≤ 130 := by rcases h0 with e | e <;> omega
 cases lt
 ·obtain ⟨t, he, ht⟩ := cv_ge (al := x) (be := y) h hd hw (hge rfl)
  simp only [Bool.false_eq_true, if_false]
  exact ⟨t, by omega, .inr rfl, by omega, by omega, by rw [Nat.pow_zero, Nat.mul_one, Nat.mul_assoc, ← Nat.pow_add]; exact he, by omega, by omega, by omega, by omega, by omega, by omega, by omega, len_up (by omega) (by omega), by rw [Nat.mul_assoc, ← Nat.pow_add]; exact len_up (by omega) (by omega), hl4, by simpa using hl4⟩
 ·obtain ⟨t, he, ht⟩ := cv_lt (al := x) (be := y) h hd hw hD hn hdb hxy h0
  simp only [if_true]
  exact ⟨t, by omega, .inr rfl, by omega, by omega, by rw [Nat.pow_zero, Nat.mul_one, Nat.mul_assoc, ← Nat.pow_add]; exact he, by omega, by omega, by omega, by omega, by omega, by omega, by omega, len_up (by omega) (by omega), by rw [Nat.mul_assoc, ← Nat.pow_add]; exact len_up (by omega) (by omega), hl4, by simpa using hl4⟩
end Go.Proofs.YtgamldefngehlaaGreatDoor
namespace Go.Proofs.YtgamldefngehlaaGreatDoor
def guessQ (k : Nat) : Option Nat := floatBits .quo .f64 (floatOfInt .f64 (k : Int)) 4614662735865160561
def guessOk (k : Nat) : Bool := match guessQ k with
 | none => false
 | some b => match floatToIntVal .f64 b .i64 with
  | none => false
  | some n => decide (0 ≤ n) && decide (n < 200) && (decide (n < 1) || decide (10 ^ (n.toNat - 1) ≤ 2 ^ (k - 1)))
theorem guess_all : (List.range 500).all (fun k => k == 0 || guessOk k) = true := by decide +kernel
theorem guess_any {k : Nat} (h : k < 500) (h0 : k ≠ 0) : ∃ b i, guessQ k = some b ∧ floatToIntVal .f64 b .i64 = some ((i : Nat) : Int) ∧ i < 200 ∧ (i < 1 ∨ 10 ^ (i - 1) ≤ 2 ^ (k - 1)) := by
 have ha := List.all_eq_true.1 guess_all k (List.mem_range.2 h)
 rw [Bool.or_eq_true, beq_iff_eq] at ha
 have hk := ha.resolve_left h0
 unfold guessOk at hk
 cases hq : guessQ k with
 | none => rw [hq] at hk; cases hk
 | some b =>
  rw [hq] at hk
  simp only at hk
  cases hn : floatToIntVal .f64 b .i64 with
  | none => rw [hn] at hk; cases hk
  | some n =>
   rw [hn] at hk
   simp only [Bool.and_eq_true, Bool.or_eq_true, decide_eq_true_eq] at hk
   obtain ⟨⟨h1, h2⟩, h3⟩ := hk
   exact ⟨b, n.toNat, rfl, by rw [hn, Int.toNat_of_nonneg h1], by omega, h3.imp (fun h => by omega) id⟩
end Go.Proofs.YtgamldefngehlaaGreatDoor
