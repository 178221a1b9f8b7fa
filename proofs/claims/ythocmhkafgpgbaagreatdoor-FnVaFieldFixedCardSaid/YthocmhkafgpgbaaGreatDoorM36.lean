/- Parts of the walk. -/
import Derived.Test.YthocmhkafgpgbaaGreatDoorM24
import Derived.Test.YthocmhkafgpgbaaGreatDoorM35
import Derived.Test.YthocmhkafgpgbaaGreatDoorM37
import Derived.Test.YthocmhkafgpgbaaGreatDoorM38
import Derived.Test.YthocmhkafgpgbaaGreatDoorM39
set_option linter.unusedVariables false
set_option linter.unusedSimpArgs false
namespace Go.Proofs.YthocmhkafgpgbaaGreatDoor
open Go.RowKit Go.Proofs.YthocmhkafgpgbaaGreatDoorW.PrintWords Go.Proofs.YthocmhkafgpgbaaGreatDoor.PFnVaFieldFixed
theorem pow_l0 (k : Nat) (X Z : List Int) (n : Nat) (hn : n < 1000) : spec_NatPow.l0 (k + 1) X ((n + 1 : Nat) : Int) Z = (spec_NatMul.f k Z X).bind fun t => spec_NatPow.l0 k X (n : Int) t := by
 have hw : wrap64 (((n + 1 : Nat) : Int) - 1) = (n : Int) := by rw [w64 (by omega) (by omega)]; omega
 have c1 : ((n + 1 : Nat) : Int) > 0 := by omega
 simp only [spec_NatPow.l0, hw]
 rw [if_pos c1]
theorem natPow_ev (A M : Nat) (hM : M ≤ 1000) (hA : (digs LB A).length ≤ M) (hb : ∀ B, B ≤ A ^ 200 → (digs LB B).length ≤ M) (hA0 : 0 < A) (d : Nat) : ∀ (B : Nat), d ≤ 200 → B * A ^ d ≤ A ^ 200 → Ev (fun k => spec_NatPow.l0 k (il (digs LB A)) (d : Int) (il (digs LB B))) (il (digs LB (B * A ^ d))) := by
 induction d with
 | zero =>
  intro B _ _
  refine ⟨1, fun k hk => ?_⟩
  obtain ⟨m, rfl⟩ : ∃ m, k = m + 1 := ⟨k - 1, by omega⟩
  simp [spec_NatPow.l0]
 | succ d ih =>
  intro B hd hle
  have hle2 : B * A * A ^ d ≤ A ^ 200 := by rw [Nat.mul_assoc, ← Nat.pow_succ']; exact hle
  have hB : B ≤ A ^ 200 := Nat.le_trans (Nat.le_mul_of_pos_right _ (Nat.pow_pos hA0)) hle
  have h1 := NatMul_ev B A M (hb B hB) hA (by omega)
  have h2 := ih (B * A) (by omega) hle2
  have e : B * A ^ (d + 1) = B * A * A ^ d := by rw [Nat.mul_assoc, ← Nat.pow_succ']
  rw [e]
  exact Ev.step (fun k => pow_l0 k _ _ d (by omega)) (Ev.bind h1 h2)
theorem len_le_two {B : Nat} (h : B ≤ 2 ^ 200) : (digs LB B).length ≤ 11 := by
 refine (digs_length_le LB_one).2 (Nat.lt_of_le_of_lt h ?_)
 rw [LB_eq]
 decide
theorem VaTwo_ev (n : Nat) (h : n ≤ 200) : Ev (fun k => spec_VaTwo.f k (n : Int)) (il (digs LB (2 ^ n))) := by
 have d2 : digs LB 2 = [2] := digs_small LB_one (by omega) (by rw [LB_eq]; omega)
 have h1 := NatFrom_ev 1 (by omega)
 have h2 := natPow_ev 2 11 (by omega) (by rw [d2]; simp) (fun B hB => len_le_two hB) (by omega) n 1 h (by rw [Nat.one_mul]; exact Nat.pow_le_pow_right (by omega) h)
 rw [Nat.one_mul, d2] at h2
 have h3 : Ev (fun k => spec_NatPow.f k ([2] : List Int) (n : Int)) (il (digs LB (2 ^ n))) := Ev.bind h1 h2
 exact Ev.bind h3 (Ev.now _)
theorem pow10_all : ∀ s : Fin 16, spec_Pow10.f 20 ((s.val : Nat) : Int) = some (il (if s.val < 9 then [10 ^ s.val] else [0, 10 ^ (s.val - 9)])) := by decide +kernel
theorem pow10_digs (s : Nat) (h : s ≤ 15) : digs LB (10 ^ s) = if s < 9 then [10 ^ s] else [0, 10 ^ (s - 9)] := by
 by_cases h9 : s < 9
 ·rw [if_pos h9]
  refine digs_small LB_one (Nat.ne_of_gt (Nat.pow_pos (by omega))) (Nat.lt_of_lt_of_le (Nat.pow_lt_pow_right (by omega) h9) (by rw [LB_eq]; decide))
 ·rw [if_neg h9]
  have e : 10 ^ s = val LB [0, 10 ^ (s - 9)] := by
   simp only [val, Nat.mul_zero, Nat.add_zero, Nat.zero_add]
   rw [LB_eq, show (1000000000 : Nat) = 10 ^ 9 by decide, ← Nat.pow_add]
   congr 1
   omega
  rw [e]
  refine digs_val LB_one (.cons LB_pos (.one (Nat.lt_of_lt_of_le (Nat.pow_lt_pow_right (by omega) (show s - 9 < 9 by omega)) (by rw [LB_eq]; decide)))) (fun _ => ?_)
  simp
theorem Pow10_ev (s : Nat) (h : s ≤ 15) : Ev (fun k => spec_Pow10.f k (s : Int)) (il (digs LB (10 ^ s))) := by
 rw [pow10_digs s h]
 exact Ev.of (spec_Pow10.mono _) (pow10_all ⟨s, by omega⟩)
theorem va_l0 (k : Nat) (X Z : List Int) (i n x : Nat) (hx : rd X (i : Int) = (x : Int)) (hi : i < X.length) (hn : n = X.length) (hi2 : i < 9223372036854775806) (hxl : x < 256) :
  spec_VaNat.l0 (k + 1) Z X (n : Int) (i : Int) = (spec_NatFrom.f k ((256 : Nat) : Int)).bind fun t138 => (spec_NatMul.f k Z t138).bind fun t141 => (spec_NatFrom.f k (x : Int)).bind fun t144 => (spec_NatAdd.f k t141 t144).bind fun t147 => spec_VaNat.l0 k t147 X (n : Int) ((i + 1 : Nat) : Int) := by
 have hw := wsucc hi2
 have e : IntKind.u64.wrap (x : Int) = (x : Int) := wu64 (by omega) (by omega)
 simp only [spec_VaNat.l0, hx, hw, e]
 have c1 : (i : Int) < (n : Int) := by omega
 have c2 : (0 : Int) ≤ (i : Int) := by omega
 have c3 : (i : Int) < (X.length : Int) := by omega
 rw [if_pos c1, if_pos c2, if_pos c3]
 rfl
theorem beV_snoc : ∀ (xs : List Nat) (x : Nat), val 256 (x :: xs) = val 256 xs * 256 + x := fun xs x => by simp [val]; omega
theorem vaNat_ev (xs : List Nat) (hb : ∀ x ∈ xs, x < 256) (hlen : xs.length ≤ 2147483648) (d : Nat) : ∀ i, xs.length - i = d → i ≤ xs.length →
  Ev (fun k => spec_VaNat.l0 k (il (digs LB (val 256 (xs.take i).reverse))) (il xs) (xs.length : Int) (i : Int)) (il (digs LB (val 256 xs.reverse))) := by
 have hlx := il_length xs
 induction d with
 | zero =>
  intro i hd hi
  obtain rfl : i = xs.length := by omega
  rw [List.take_length]
  refine ⟨1, fun k hk => ?_⟩
  obtain ⟨m, rfl⟩ : ∃ m, k = m + 1 := ⟨k - 1, by omega⟩
  have c1 : ¬ (xs.length : Int) < (xs.length : Int) := by omega
  simp only [spec_VaNat.l0]
  rw [if_neg c1]
 | succ d ih =>
  intro i hd hi
  have rx := rd_il xs i
  have gx : xs.getD i 0 = xs[i]'(by omega) := by simp [List.getD_eq_getElem?_getD, List.getElem?_eq_getElem (show i < xs.length by omega)]
  have bx : xs.getD i 0 < 256 := by rw [gx]; exact hb _ (List.getElem_mem _)
  have et : val 256 (xs.take (i + 1)).reverse = val 256 (xs.take i).reverse * 256 + xs.getD i 0 := by
   rw [List.take_add_one, List.getElem?_eq_getElem (show i < xs.length by omega), gx]
   simp only [Option.toList_some, List.reverse_append, List.reverse_cons, List.reverse_nil, List.nil_append, List.singleton_append]
   exact beV_snoc _ _
  have h := ih (i + 1) (by omega) (by omega)
  rw [et] at h
  have hV : val 256 (xs.take i).reverse < LB ^ i := by
   have hw : Words 256 (xs.take i).reverse := fun y hy => hb y (List.mem_of_mem_take (by simpa using hy))
   have := val_lt hw
   refine Nat.lt_of_lt_of_le this ?_
   simp only [List.length_reverse, List.length_take]
   rw [Nat.min_eq_left hi]
   exact Nat.pow_le_pow_left (by rw [LB_eq]; omega) i
  generalize val 256 (xs.take i).reverse = V at *
  have lV : (digs LB V).length ≤ i + 1 := (digs_length_le LB_one).2 (Nat.lt_of_lt_of_le hV (Nat.pow_le_pow_right LB_pos (by omega)))
  have l256 : (digs LB 256).length ≤ i + 1 := (digs_length_le LB_one).2 (Nat.lt_of_lt_of_le (show 256 < LB ^ 1 by rw [LB_eq]; decide) (Nat.pow_le_pow_right LB_pos (by omega)))
  have lV2 : (digs LB (V * 256)).length ≤ i + 1 := (digs_length_le LB_one).2 (by
   rw [Nat.pow_succ]
   exact Nat.lt_of_le_of_lt (Nat.mul_le_mul_left V (show 256 ≤ LB by rw [LB_eq]; omega)) (Nat.mul_lt_mul_of_pos_right hV LB_pos))
  have lx : (digs LB (xs.getD i 0)).length ≤ i + 1 := (digs_length_le LB_one).2 (Nat.lt_of_lt_of_le (show xs.getD i 0 < LB ^ 1 by rw [Nat.pow_one, LB_eq]; omega) (Nat.pow_le_pow_right LB_pos (by omega)))
  have hil : i < 9223372036854775806 := by omega
  have hi1 : i + 1 ≤ 8589934592 := by omega
  have hi3 : i + 1 ≤ 17179869184 := by omega
  have g1 := NatFrom_ev 256 (by omega)
  have g2 := NatMul_ev V 256 (i + 1) lV l256 hi1
  have g3 := NatFrom_ev (xs.getD i 0) (by omega)
  have g4 := NatAdd_ev (V * 256) (xs.getD i 0) (i + 1) lV2 lx hi3
  have hin : i < (il xs).length := by omega
  exact Ev.step (fun k => va_l0 k (il xs) _ i xs.length _ rx hin hlx.symm hil bx) (Ev.bind g1 (Ev.bind g2 (Ev.bind g3 (Ev.bind g4 h))))
theorem VaNat_ev (xs : List Nat) (hb : ∀ x ∈ xs, x < 256) (hlen : xs.length ≤ 2147483648) : Ev (fun k => spec_VaNat.f k (il xs)) (il (digs LB (val 256 xs.reverse))) := by
 have h := vaNat_ev xs hb hlen xs.length 0 (by omega) (by omega)
 have e : il (digs LB (val 256 (xs.take 0).reverse)) = [] := by simp [val, digs_zero, il]
 rw [e, ← il_length] at h
 exact h
theorem by_l0 (k : Nat) (X Z : List Int) (h : 0 < X.length) (hz : Z.length < 140737488355328) : spec_VaBytes.l0 (k + 1) X Z = (spec_natShort.f k X 256).bind fun t => spec_VaBytes.l0 k t.1 (Z ++ [t.2 % 256]) := by
 have c1 : (X.length : Int) > 0 := by omega
 simp only [spec_VaBytes.l0]
 rw [if_pos c1]
 simp only [if_pos hz]
theorem by_l0_end (k : Nat) (Z : List Int) (hz : Z.length < 140737488355328) : spec_VaBytes.l0 (k + 1) [] Z = spec_VaBytes.l1 k Z ((0 : Nat) : Int) ((Z.length : Int) - 1) := by
 have hw := wpred (i := Z.length) (by omega)
 simp only [spec_VaBytes.l0, hw]
 rfl
theorem by_l1 (k : Nat) (Z : List Int) (i j x y : Nat) (hx : rd Z (i : Int) = (x : Int)) (hy : rd Z (j : Int) = (y : Int)) (hij : i < j) (hj : j < Z.length) (hj2 : j < 9223372036854775806) :
  spec_VaBytes.l1 (k + 1) Z (i : Int) (j : Int) = spec_VaBytes.l1 k ((Z.set i (y : Int)).set j (x : Int)) ((i + 1 : Nat) : Int) ((j : Int) - 1) := by
 have hw := wsucc (i := i) (by omega)
 have hw2 := wpred hj2
 simp only [spec_VaBytes.l1, hx, hy, hw, hw2]
 have c1 : (i : Int) < (j : Int) := by omega
 have c2 : (0 : Int) ≤ (j : Int) := by omega
 have c3 : (j : Int) < (Z.length : Int) := by omega
 have c4 : (0 : Int) ≤ (i : Int) := by omega
 have c5 : (i : Int) < (Z.length : Int) := by omega
 have c6 : ((i : Int)).toNat = i := by omega
 have c7 : ((j : Int)).toNat = j := by omega
 rw [if_pos c1, if_pos c2, if_pos c3, if_pos c4, if_pos c5, c6, c7]
theorem by_l1_end (k : Nat) (Z : List Int) (i j : Int) (h : ¬ i < j) : spec_VaBytes.l1 (k + 1) Z i j = some Z := by
 simp only [spec_VaBytes.l1]
 rw [if_neg h]
def half (xs : List Nat) (i : Nat) (zs : List Nat) : Prop := zs.length = xs.length ∧ ∀ p, p < xs.length → zs.getD p 0 = if p < i ∨ xs.length ≤ p + i then xs.getD (xs.length - 1 - p) 0 else xs.getD p 0
theorem getD_set_eq (xs : List Nat) (p d : Nat) (h : p < xs.length) : (xs.set p d).getD p 0 = d := by simp [List.getD_eq_getElem?_getD, h]
theorem half_end {xs zs : List Nat} {i : Nat} (h : half xs i zs) (hi : xs.length ≤ 2 * i + 1) : zs = xs.reverse := by
 refine List.ext_getElem (by simp [h.1]) (fun p h1 h2 => ?_)
 have hp : p < xs.length := by rw [← h.1]; exact h1
 have := h.2 p hp
 have e : zs.getD p 0 = zs[p] := by simp [List.getD_eq_getElem?_getD, List.getElem?_eq_getElem h1]
 rw [List.getElem_reverse, ← e, this]
 split
 ·simp [List.getD_eq_getElem?_getD, List.getElem?_eq_getElem (show xs.length - 1 - p < xs.length by omega)]
 ·obtain hq : xs.length - 1 - p = p := by omega
  simp [hq, List.getD_eq_getElem?_getD, List.getElem?_eq_getElem hp]
theorem half_step {xs zs : List Nat} {i : Nat} (h : half xs i zs) (hi : 2 * i + 1 < xs.length) : half xs (i + 1) ((zs.set i (zs.getD (xs.length - 1 - i) 0)).set (xs.length - 1 - i) (zs.getD i 0)) := by
 obtain ⟨hl, hg⟩ := h
 refine ⟨by simp [hl], fun p hp => ?_⟩
 have a := hg i (by omega)
 have b := hg (xs.length - 1 - i) (by omega)
 rw [if_neg (by omega)] at a b
 by_cases h1 : p = xs.length - 1 - i
 ·subst h1
  rw [getD_set_eq _ _ _ (by simp; omega), if_pos (by omega), a]
  congr 1
  omega
 ·rw [getD_set_ne _ _ _ _ (fun e => h1 e.symm)]
  by_cases h2 : p = i
  ·subst h2
   rw [getD_set_eq _ _ _ (by omega), if_pos (by omega), b]
  ·rw [getD_set_ne _ _ _ _ (fun e => h2 e.symm), hg p hp]
   by_cases h3 : p < i ∨ xs.length ≤ p + i
   ·rw [if_pos h3, if_pos (by omega)]
   ·rw [if_neg h3, if_neg (by omega)]
theorem rev_ev (xs : List Nat) (hlen : xs.length ≤ 8589934592) (d : Nat) : ∀ (i : Nat) (zs : List Nat), xs.length - 2 * i ≤ d → half xs i zs → Ev (fun k => spec_VaBytes.l1 k (il zs) (i : Int) ((xs.length : Int) - 1 - (i : Int))) (il xs.reverse) := by
 induction d with
 | zero =>
  intro i zs hd h
  rw [half_end h (by omega)]
  have c : ¬ (i : Int) < (xs.length : Int) - 1 - (i : Int) := by omega
  exact Ev.step (fun k => by_l1_end k _ _ _ c) (Ev.now _)
 | succ d ih =>
  intro i zs hd h
  by_cases hi : 2 * i + 1 < xs.length
  ·have hlz := il_length zs
   have hl := h.1
   have rx := rd_il zs i
   have ry := rd_il zs (xs.length - 1 - i)
   have e1 : (xs.length : Int) - 1 - (i : Int) = ((xs.length - 1 - i : Nat) : Int) := by omega
   have e2 : ((xs.length - 1 - i : Nat) : Int) - 1 = (xs.length : Int) - 1 - ((i + 1 : Nat) : Int) := by omega
   have e3 : i < xs.length - 1 - i := by omega
   have e4 : xs.length - 1 - i < (il zs).length := by omega
   have e5 : xs.length - 1 - i < 9223372036854775806 := by omega
   rw [e1]
   refine Ev.step (fun k => by_l1 k (il zs) i (xs.length - 1 - i) _ _ rx ry e3 e4 e5) ?_
   rw [il_set, il_set, e2]
   exact ih (i + 1) _ (by omega) (half_step h hi)
  ·rw [half_end h (by omega)]
   have c : ¬ (i : Int) < (xs.length : Int) - 1 - (i : Int) := by omega
   exact Ev.step (fun k => by_l1_end k _ _ _ c) (Ev.now _)
theorem vaBytes_ev (hM : True) (d : Nat) : ∀ (n : Nat) (os : List Nat), (digs 256 n).length = d → os.length + d ≤ 4294967296 → (digs LB n).length ≤ 4294967296 → Ev (fun k => spec_VaBytes.l0 k (il (digs LB n)) (il os)) (il (os ++ digs 256 n).reverse) := by
 induction d with
 | zero =>
  intro n os hd hl _
  have h0 : n = 0 := (digs_eq_nil (by omega)).1 (List.eq_nil_of_length_eq_zero hd)
  subst h0
  rw [digs_zero, digs_zero, List.append_nil]
  have hlo := il_length os
  have e : il ([] : List Nat) = [] := rfl
  rw [e]
  have c : (il os).length < 140737488355328 := by omega
  have h := rev_ev os (by omega) os.length 0 os (by omega) ⟨rfl, fun p hp => by rw [if_neg (by omega)]⟩
  have e2 : (os.length : Int) - 1 - ((0 : Nat) : Int) = ((il os).length : Int) - 1 := by omega
  rw [e2] at h
  exact Ev.step (fun k => by_l0_end k _ c) h
 | succ d ih =>
  intro n os hd hl hn
  have h0 : n ≠ 0 := fun e => by subst e; rw [digs_zero] at hd; simp at hd
  have e := digs_pos (B := 256) (by omega) h0
  have hlo := il_length os
  have hlx := il_length (digs LB n)
  have hpos := (digs_len_pos LB_one).2 h0
  have c1 : 0 < (il (digs LB n)).length := by omega
  have c2 : (il os).length < 140737488355328 := by omega
  have g1 := NatShort_ev n (by omega)
  have hq : (digs LB (n / 256)).length ≤ 4294967296 := Nat.le_trans (digs_length_mono LB_one (Nat.div_le_self n 256)) hn
  have h := ih (n / 256) (os ++ [n % 256]) (len_tail e hd) (by simp; omega) hq
  have e2 : os ++ digs 256 n = os ++ [n % 256] ++ digs 256 (n / 256) := by rw [e]; simp
  rw [e2]
  have e3 : ((n % 256 : Nat) : Int) % 256 = ((n % 256 : Nat) : Int) := by omega
  have e4 : il (os ++ [n % 256]) = il os ++ [((n % 256 : Nat) : Int) % 256] := by rw [il_append, e3]; rfl
  rw [e4] at h
  exact Ev.step (fun k => by_l0 k _ _ c1 c2) (Ev.bind g1 h)
theorem VaBytes_ev (n : Nat) (h1 : (digs 256 n).length ≤ 4294967296) (h2 : (digs LB n).length ≤ 4294967296) : Ev (fun k => spec_VaBytes.f k (il (digs LB n))) (il (digs 256 n).reverse) := by
 have h := vaBytes_ev trivial (digs 256 n).length n [] rfl (by simpa using h1) h2
 exact h
end Go.Proofs.YthocmhkafgpgbaaGreatDoor
namespace Go.Proofs.YthocmhkafgpgbaaGreatDoor
open Go.RowKit Go.Proofs.YthocmhkafgpgbaaGreatDoorW.PrintWords Go.Proofs.YthocmhkafgpgbaaGreatDoor.PFnVaFieldFixed
theorem lit_l0 (k : Nat) (X Z Bs T : List Int) (size i b n : Nat) (hb : rd Bs (i : Int) = (b : Int)) (hi : i < Bs.length) (hT : T.length = Bs.length) (hn : n = Bs.length) (hz : Z.length = size) (hl : Bs.length < 4294967296) (hs : size < 4294967296) (hT2 : spec_VaBytes.f k X = some T) :
  spec_vaLittle.l0 (k + 1) X (size : Int) Z Bs (n : Int) (i : Int) = spec_vaLittle.l0 k X (size : Int) (if Bs.length - 1 - i < size then Z.set (Bs.length - 1 - i) (b : Int) else Z) Bs (n : Int) ((i + 1 : Nat) : Int) := by
 have hw := wsucc (i := i) (by omega)
 have hw2 : wrap64 ((T.length : Int) - 1) = ((Bs.length - 1 : Nat) : Int) := by rw [w64 (by omega) (by omega)]; omega
 have hw3 : wrap64 (((Bs.length - 1 : Nat) : Int) - (i : Int)) = ((Bs.length - 1 - i : Nat) : Int) := by rw [w64 (by omega) (by omega)]; omega
 simp only [spec_vaLittle.l0, hT2, Option.bind_some, hb, hw, hw2, hw3]
 clear hw hw2 hw3 hT2 hb
 have c1 : (i : Int) < (n : Int) := by omega
 have c2 : (0 : Int) ≤ (i : Int) := by omega
 have c3 : (i : Int) < (Bs.length : Int) := by omega
 rw [if_pos c1, if_pos c2, if_pos c3]
 obtain ⟨q, hq⟩ : ∃ q, q = Bs.length - 1 - i := ⟨_, rfl⟩
 rw [← hq]
 by_cases h : q < size
 ·have c4 : (q : Int) < (size : Int) := by omega
  have c5 : (0 : Int) ≤ (q : Int) := by omega
  have c6 : (q : Int) < (Z.length : Int) := by omega
  have c7 : ((q : Int)).toNat = q := by omega
  rw [if_pos c4, if_pos c5, if_pos c6, c7, if_pos h]
 ·have c4 : ¬ (q : Int) < (size : Int) := by omega
  rw [if_neg c4, if_neg h]
theorem lit_end (k : Nat) (X Z Bs : List Int) (size n : Int) (i : Int) (h : ¬ i < n) : spec_vaLittle.l0 (k + 1) X size Z Bs n i = some Z := by
 simp only [spec_vaLittle.l0]
 rw [if_neg h]
theorem Ev.step2 {α β : Type} {g f : Nat → Option α} {e : Nat → Option β} {r : α} {t : β} (he : Ev e t) (h : ∀ k, e k = some t → g (k + 1) = f k) (k : Ev f r) : Ev g r := by
 obtain ⟨K, k⟩ := k
 obtain ⟨K', he⟩ := he
 refine ⟨max K K' + 1, fun n hn => ?_⟩
 obtain ⟨m, rfl⟩ : ∃ m, n = m + 1 := ⟨n - 1, by omega⟩
 rw [h m (he m (by omega))]
 exact k m (by omega)
theorem lit_ev (n size : Nat) (h1 : (digs 256 n).length < 4294967296) (h2 : (digs LB n).length ≤ 4294967296) (hs : size < 4294967296) (d : Nat) : ∀ (i : Nat) (zs : List Nat), (digs 256 n).length - i = d → i ≤ (digs 256 n).length → zs.length = size →
  (∀ j, j < size → (digs 256 n).length - i ≤ j → zs.getD j 0 = n / 256 ^ j % 256) →
  ∃ rs : List Nat, rs.length = size ∧ (∀ j, j < size → rs.getD j 0 = n / 256 ^ j % 256) ∧ Ev (fun k => spec_vaLittle.l0 k (il (digs LB n)) (size : Int) (il zs) (il (digs 256 n).reverse) (((digs 256 n).reverse.length : Nat) : Int) (i : Int)) (il rs) := by
 have hlb := il_length (digs 256 n).reverse
 have hlr : (digs 256 n).reverse.length = (digs 256 n).length := List.length_reverse
 have hv := VaBytes_ev n (by omega) h2
 induction d with
 | zero =>
  intro i zs hd hi hz hg
  refine ⟨zs, hz, fun j hj => hg j hj (by omega), ?_⟩
  have c : ¬ (i : Int) < (((digs 256 n).reverse.length : Nat) : Int) := by omega
  exact Ev.step (fun k => lit_end k _ _ _ _ _ _ c) (Ev.now _)
 | succ d ih =>
  intro i zs hd hi hz hg
  have hlz := il_length zs
  have rb := rd_il (digs 256 n).reverse i
  have gb : (digs 256 n).reverse.getD i 0 = n / 256 ^ ((digs 256 n).length - 1 - i) % 256 := by
   rw [← dig_get (by omega)]
   simp only [List.getD_eq_getElem?_getD]
   rw [List.getElem?_reverse (by omega)]
  obtain ⟨q, hq⟩ : ∃ q, q = (digs 256 n).length - 1 - i := ⟨_, rfl⟩
  rw [← hq] at gb
  have hq2 : (il (digs 256 n).reverse).length - 1 - i = q := by omega
  have c1 : i < (il (digs 256 n).reverse).length := by omega
  have c2 : (il zs).length = size := by omega
  have c3 : (il (digs 256 n).reverse).length < 4294967296 := by omega
  by_cases h : q < size
  ·obtain ⟨rs, r1, r2, r3⟩ := ih (i + 1) (zs.set q ((digs 256 n).reverse.getD i 0)) (by omega) (by omega) (by simp [hz]) (fun j hj hle => by
    by_cases e : q = j
    ·subst e
     rw [getD_set_eq _ _ _ (by omega)]; exact gb
    ·rw [getD_set_ne _ _ _ _ e]
     exact hg j hj (by omega))
   refine ⟨rs, r1, r2, ?_⟩
   refine Ev.step2 hv (fun k hk => lit_l0 k _ _ _ _ size i _ _ rb c1 rfl hlb.symm c2 c3 hs hk) ?_
   rw [hq2, if_pos h, il_set]
   exact r3
  ·obtain ⟨rs, r1, r2, r3⟩ := ih (i + 1) zs (by omega) (by omega) hz (fun j hj hle => hg j hj (by omega))
   refine ⟨rs, r1, r2, ?_⟩
   refine Ev.step2 hv (fun k hk => lit_l0 k _ _ _ _ size i _ _ rb c1 rfl hlb.symm c2 c3 hs hk) ?_
   rw [hq2, if_neg h]
   exact r3
theorem vaLittle_ev (n size : Nat) (h1 : (digs 256 n).length < 4294967296) (h2 : (digs LB n).length ≤ 4294967296) (hs : size < 4294967296) :
  ∃ rs : List Nat, rs.length = size ∧ (∀ j, j < size → rs.getD j 0 = n / 256 ^ j % 256) ∧ Ev (fun k => spec_vaLittle.f k (il (digs LB n)) (size : Int)) (il rs) := by
 obtain ⟨rs, r1, r2, r3⟩ := lit_ev n size h1 h2 hs (digs 256 n).length 0 (List.replicate size 0) (by omega) (by omega) (by simp) (fun j hj hle => by
  rw [Nat.sub_zero] at hle
  have h : ¬ j < (digs 256 n).length := by omega
  rw [dig_lt (by omega)] at h
  have h0 : n / 256 ^ j = 0 := by
   rcases Nat.eq_zero_or_pos (n / 256 ^ j) with e | e
   ·exact e
   ·exact absurd (Nat.ne_of_gt e) h
  rw [h0]
  simp [List.getD_eq_getElem?_getD, List.getElem?_replicate, hj])
 refine ⟨rs, r1, r2, ?_⟩
 have hv := VaBytes_ev n (by omega) h2
 have hlb := il_length (digs 256 n).reverse
 rw [← il_replicate, ← hlb] at r3
 have c1 : (0 : Int) ≤ (size : Int) := by omega
 have c2 : ((size : Int)).toNat = size := by omega
 have c3 : size ≤ 281474976710656 := by omega
 refine Ev.congr (fun k => ?_) (Ev.bind (f := fun k t => spec_vaLittle.l0 k (il (digs LB n)) (size : Int) (List.replicate size 0) t (t.length : Int) ((0 : Nat) : Int)) hv r3)
 simp only [spec_vaLittle.f]
 rw [if_pos c1, c2, if_pos c3]
 rfl
end Go.Proofs.YthocmhkafgpgbaaGreatDoor
namespace Go.Proofs.YthocmhkafgpgbaaGreatDoor
open Go.RowKit Go.Proofs.YthocmhkafgpgbaaGreatDoorW.PrintWords Go.Proofs.YthocmhkafgpgbaaGreatDoorW.PrintMore Go.Proofs.YthocmhkafgpgbaaGreatDoorW.PrintLast Go.Proofs.YthocmhkafgpgbaaGreatDoor.PFnVaFieldFixed
theorem Reads.out {k : IntKind} {w : World} {v : Value} {xs : List Nat} (h : Reads k w v xs) : ∃ A c, v = .slice A (il xs).length c ∧ (il xs).length ≤ c ∧ (Kd.int k).C w A (il xs).length (il xs) := by
 rw [il_length]; exact h
theorem Reads.mk {k : IntKind} {w : World} {A : Option Addr} {c : Nat} {xs : List Nat} (hl : (il xs).length ≤ c) (h : (Kd.int k).C w A (il xs).length (il xs)) : Reads k w (.slice A (il xs).length c) xs := by
 rw [il_length] at *; exact ⟨A, c, rfl, hl, h⟩
theorem Reads.of_V {k : IntKind} {e : Nat} {w : World} {base : Nat} {ok : Nat → Prop} {v : Value} {xs : List Nat} (h : Kd.V (Kd.int k) e w base ok v (il xs)) : Reads k w v xs := by
 obtain ⟨A, c, rfl, hl, hf⟩ := h
 exact Reads.mk hl (Kd.F_now hf)
theorem bytesIn_of_own {w : World} {base : Nat} {v : Value} {xs : List Nat} (hb : ∀ x ∈ xs, x < 256) (h : w.ownsRow base 5 1 v xs.length (u8s (il xs))) : BytesIn w v xs := by
 rcases h.2 with ⟨rfl, h0⟩ | ⟨g, cap, cur, rfl, hg, hh, hc, hm, hs, ht⟩
 ·obtain rfl := List.eq_nil_of_length_eq_zero h0
  exact ⟨none, 0, rfl, hb, .inl rfl⟩
 ·refine ⟨some ⟨g, 0, none⟩, cap, rfl, hb, .inr ⟨g, rfl, hc, fun j hj => ?_, (Array.getElem?_eq_some_iff.1 hh).1⟩⟩
  have := h.cells (g := g) rfl j (.int .u8 (xs[j] : Int)) (by simp [il, hj])
  rw [Addr.add_lit] at this
  exact this
theorem u8s_encs (xs : List Int) : encs (Value.int .u8) xs = u8s xs := rfl
section
variable {w : World} {u v : Value} {a b : Nat}
theorem natMul_any (hu : NatS w u a) (hv : NatS w v b) (M : Nat) (ha : (digs LB a).length ≤ M) (hb : (digs LB b).length ≤ M) (hM : M ≤ 8589934592) :
  Calls Tryz.prog 14 #[u, v] w fun e w' => ∃ r, e = .returned r ∧ NatS w' r (a * b) ∧ Below w.heap.size w w' := by
 obtain ⟨A0, c0, rfl, hc0, hr0⟩ := Reads.out hu
 obtain ⟨A1, c1, rfl, hc1, hr1⟩ := Reads.out hv
 obtain ⟨k, hk⟩ := (NatMul_ev a b M ha hb hM).rounds
 refine (spec_NatMul.calls k A0 c0 _ A1 c1 _ _ w hr0 hc0 hr1 hc1 hk).mono ?_
 rintro e w' ⟨r, rfl, hr, hb⟩
 exact ⟨r, rfl, Reads.of_V hr, hb⟩
theorem vaNat_any {xs : List Nat} (hu : Reads .u8 w u xs) (hb : ∀ x ∈ xs, x < 256) (hl : xs.length ≤ 2147483648) :
  Calls Tryz.prog 38 #[u] w fun e w' => ∃ r, e = .returned r ∧ NatS w' r (beVal xs) ∧ Below w.heap.size w w' := by
 obtain ⟨A0, c0, rfl, hc0, hr0⟩ := Reads.out hu
 obtain ⟨k, hk⟩ := (VaNat_ev xs hb hl).rounds
 rw [← beVal_rev, List.reverse_reverse] at hk
 refine (spec_VaNat.calls k A0 c0 _ _ w hr0 hc0 hk).mono ?_
 rintro e w' ⟨r, rfl, hr, hb⟩
 exact ⟨r, rfl, Reads.of_R hr, hb⟩
theorem pow10_any (w : World) (s : Nat) (h : s ≤ 15) :
  Calls Tryz.prog 15 #[.int .i64 s] w fun e w' => ∃ r, e = .returned r ∧ NatS w' r (10 ^ s) ∧ Below w.heap.size w w' := by
 obtain ⟨k, hk⟩ := (Pow10_ev s h).rounds
 refine (spec_Pow10.calls k s _ w hk).mono ?_
 rintro e w' ⟨r, rfl, hr, hb⟩
 exact ⟨r, rfl, Reads.of_R hr, hb⟩
theorem one_any (w : World) : Calls Tryz.prog 16 #[] w fun e w' => ∃ r, e = .returned r ∧ NatS w' r 1 ∧ Below w.heap.size w w' := by
 have h : spec_one.f = some (il (digs LB 1)) := by rw [digs_small LB_one (by omega) (by rw [LB_eq]; omega)]; rfl
 refine (spec_one.calls _ w h).mono ?_
 rintro e w' ⟨r, rfl, hr, hb⟩
 exact ⟨r, rfl, Reads.of_R hr, hb⟩
theorem fits_any {xs : List Nat} (neg : Bool) (hu : Reads .u8 w u xs) :
  Calls Tryz.prog 4 #[.agg #[.bool neg, u]] w fun e w' => e = .returned (.bool (decide (xs.length ≤ 2147483647))) ∧ Below w.heap.size w w' := by
 obtain ⟨A0, c0, rfl, hc0, hr0⟩ := Reads.out hu
 have h : laws_zzFits4.f neg (il xs) = some (decide (xs.length ≤ 2147483647)) := by
  simp only [laws_zzFits4.f, il_length]
  by_cases h : xs.length ≤ 2147483647
  ·rw [if_neg (by omega), decide_eq_true h]
  ·rw [if_pos (by omega), decide_eq_false h]
 exact laws_zzFits4.calls neg A0 c0 _ _ w hr0 hc0 h
end
end Go.Proofs.YthocmhkafgpgbaaGreatDoor
namespace Go.Proofs.YthocmhkafgpgbaaGreatDoor
open Go.RowKit Go.Proofs.YthocmhkafgpgbaaGreatDoorW.PrintWords Go.Proofs.YthocmhkafgpgbaaGreatDoorW.PrintMore Go.Proofs.YthocmhkafgpgbaaGreatDoor.PFnVaFieldFixed
theorem box2 {w : World} {b : Nat} {x0 x1 : Value} {t : TypeId} (h : w.heap[b]? = some (.cells #[x0, x1] t (0, 0))) (y0 y1 : Value) : ((w.setCell ⟨b, 0, none⟩ y0).setCell ⟨b, 1, none⟩ y1).heap[b]? = some (.cells #[y0, y1] t (0, 0)) :=
 blk_setCell (blk_setCell h 0 y0) 1 y1
set_option maxRecDepth 100000 in
theorem wholeOf_any (w : World) (neg : Bool) (A : Option Addr) (L c : Nat) :
  Calls Tryz.prog 13 #[.bool neg, .slice A L c] w fun e w' => e = .returned (.agg #[.bool (neg && decide (0 < L)), .slice A L c]) ∧ Below w.heap.size w w' := by
 cases neg with
 | false =>
  go_enter Tryz.func13, Tryz.ntmps13
  go_wp2_with fail
  exact ⟨rfl, _, results_cell_row Tryz.results13 _ _ w.heap.size 30 _ (0, 0) _ rfl (blk_new _ _) Tryz.underlying30 rfl (by kernel_rfl), rfl, (Below.refl _ w).alloc (Nat.le_refl _) _⟩
 | true =>
  go_enter Tryz.func13, Tryz.ntmps13
  by_cases h : 0 < L
  ·have h' : (0 : Int) < (L : Int) := by omega
   go_wp2_with fail
   exact ⟨rfl, _, results_cell_row Tryz.results13 _ _ w.heap.size 30 _ (0, 0) _ rfl (blk_new _ _) Tryz.underlying30 rfl (by kernel_rfl), by simp [h], (Below.refl _ w).alloc (Nat.le_refl _) _⟩
  ·have h' : ¬ (0 : Int) < (L : Int) := by omega
   go_wp2_with fail
   exact ⟨rfl, _, results_cell_row Tryz.results13 _ _ w.heap.size 30 _ (0, 0) _ rfl (blk_new _ _) Tryz.underlying30 rfl (by kernel_rfl), by simp [h], (Below.refl _ w).alloc (Nat.le_refl _) _⟩
theorem vaRatOf_any {w : World} {v u : Value} {n d : Nat} (neg : Bool) (hn : NatS w v n) (hd : NatS w u d) (h1 : (digs 256 n).length ≤ 4294967296) (h2 : (digs LB n).length ≤ 4294967296) (h3 : (digs 256 d).length ≤ 4294967296) (h4 : (digs LB d).length ≤ 4294967296) :
  Calls Tryz.prog 9 #[.agg #[.bool neg, v, u]] w fun e w' => ∃ r s, e = .returned (.agg #[.bool neg, r, s]) ∧ BytesIn w' r (beB n) ∧ BytesIn w' s (beB d) ∧ Below w.heap.size w w' := by
 obtain ⟨A0, c0, rfl, hc0, hr0⟩ := Reads.out hn
 obtain ⟨A1, c1, rfl, hc1, hr1⟩ := Reads.out hd
 have e1 := VaBytes_ev n h1 h2
 have e2 := VaBytes_ev d h3 h4
 rw [← beB_digs] at e1 e2
 have e3 : Ev (fun k => spec_VaBig.f k neg (il (digs LB n))) (neg, il (beB n)) := Ev.bind e1 (Ev.now _)
 have e4 : Ev (fun k => spec_VaRatOf.f k neg (il (digs LB n)) (il (digs LB d))) (neg, il (beB n), il (beB d)) := Ev.bind e3 (Ev.bind e2 (Ev.now _))
 obtain ⟨k, hk⟩ := e4.rounds
 refine (spec_VaRatOf.calls k neg A0 c0 _ A1 c1 _ _ _ _ w hr0 hc0 hr1 hc1 hk).mono ?_
 rintro e w' ⟨r, s, rfl, hr, hs, hb⟩
 have o1 := Kd.own_of_R hr
 have o2 := Kd.own_of_R hs
 rw [il_length, u8s_encs] at o1 o2
 exact ⟨r, s, rfl, bytesIn_of_own (beB_lt n) o1, bytesIn_of_own (beB_lt d) o2, hb⟩
theorem cmpN_self (a : Nat) : cmpN a a = 0 := by simp [cmpN]
theorem wholeCmp_any {w : World} {v u : Value} {n : Nat} (neg : Bool) (hn : NatS w v n) (hd : NatS w u n) (h : (digs LB n).length ≤ 17179869184) :
  Calls Tryz.prog 58 #[.agg #[.bool neg, v], .agg #[.bool neg, u]] w fun e w' => e = .returned (.int .i64 0) ∧ Below w.heap.size w w' := by
 obtain ⟨A0, c0, rfl, hc0, hr0⟩ := Reads.out hn
 obtain ⟨A1, c1, rfl, hc1, hr1⟩ := Reads.out hd
 obtain ⟨k, hk⟩ := (NatCmp_ev n n h).rounds
 rw [cmpN_self] at hk
 have e : spec_Whole_Cmp.f (k + 1) neg (il (digs LB n)) neg (il (digs LB n)) = some 0 := by
  cases neg <;> simp [spec_Whole_Cmp.f, spec_Whole_Cmp.j0, hk]
 exact spec_Whole_Cmp.calls _ neg A0 c0 _ neg A1 c1 _ _ w hr0 hc0 hr1 hc1 e
theorem vaFixed_any {w : World} {v : Value} {n size : Nat} (neg : Bool) (hn : NatS w v n) (hs : size = 8 ∨ size = 12 ∨ size = 16) (hlt : n < 256 ^ (size - 1)) :
  Calls Tryz.prog 7 #[.agg #[.bool neg, v], .int .i64 size] w fun e w' => ∃ r, e = .returned (.tuple #[r, .bool true]) ∧ w'.ownsRow w.heap.size 5 1 r size (u8s (leB (zOf neg n) size)) ∧ Below w.heap.size w w' := by
 obtain ⟨A0, c0, rfl, hc0, hr0⟩ := Reads.out hn
 have hs1 : 1 ≤ size := by rcases hs with rfl | rfl | rfl <;> omega
 have hs2 : size ≤ 16 := by rcases hs with rfl | rfl | rfl <;> omega
 have w1 : wrap64 ((wrap64 (8 * (size : Int))) - 1) = ((8 * size - 1 : Nat) : Int) := by rw [w64 (x := 8 * (size : Int)) (by omega) (by omega), w64 (by omega) (by omega)]; omega
 have w2 : wrap64 (8 * (size : Int)) = ((8 * size : Nat) : Int) := by rw [w64 (by omega) (by omega)]; omega
 have t1 := VaTwo_ev (8 * size - 1) (by omega)
 have t2 := VaTwo_ev (8 * size) (by omega)
 have hhalf : n < 2 ^ (8 * size - 1) := pow_ge hlt hs1
 have hfull : n ≤ 256 ^ size := Nat.le_of_lt (Nat.lt_of_lt_of_le hlt (Nat.pow_le_pow_right (by omega) (by omega)))
 have hsm : ∀ m, m ≤ 256 ^ size → (digs LB m).length ≤ 5 ∧ (digs 256 m).length ≤ 17 := fun m hm => by
  have : m ≤ 256 ^ 16 := Nat.le_trans hm (Nat.pow_le_pow_right (by omega) hs2)
  exact ⟨(digs_length_le LB_one).2 (Nat.lt_of_le_of_lt this (by rw [LB_eq]; decide)), (digs_length_le (by omega)).2 (Nat.lt_of_le_of_lt this (by decide))⟩
 obtain ⟨a1, a2⟩ := hsm n hfull
 have c1 := NatCmp_ev n (2 ^ (8 * size - 1)) (by omega)
 have hcmp : cmpN n (2 ^ (8 * size - 1)) = -1 := by unfold cmpN; rw [if_pos hhalf]
 rw [hcmp] at c1
 cases neg with
 | false =>
  obtain ⟨rs, r1, r2, r3⟩ := vaLittle_ev n size (by omega) (by omega) (by omega)
  have ev : Ev (fun k => spec_VaFixed.f k false (il (digs LB n)) (size : Int)) (il rs, true) := by
   refine Ev.congr (fun k => ?_) (Ev.bind (f := fun k t => (spec_vaLittle.f k (il (digs LB n)) (size : Int)).bind fun t247 => (spec_NatCmp.f k (il (digs LB n)) t).bind fun t250 => some (t247, decide (t250 < 0))) t1 (Ev.bind (f := fun k t247 => (spec_NatCmp.f k (il (digs LB n)) (il (digs LB (2 ^ (8 * size - 1))))).bind fun t250 => some (t247, decide (t250 < 0))) r3 (Ev.bind c1 (Ev.now _))))
   simp only [spec_VaFixed.f, w1]
   rfl
  obtain ⟨k, hk⟩ := ev.rounds
  refine (spec_VaFixed.calls k false A0 c0 _ size _ _ w hr0 hc0 hk).mono ?_
  rintro e w' ⟨r, rfl, hr, hb⟩
  have ho := Kd.own_of_R hr
  have e2 : il rs = leB (n : Int) size := leB_ext (by rw [il_length, r1]) (fun j hj => by rw [il_get, r2 j hj])
  rw [il_length, u8s_encs, e2, r1] at ho
  exact ⟨r, rfl, ho, hb⟩
 | true =>
  obtain ⟨b1, b2⟩ := hsm (256 ^ size - n) (Nat.sub_le _ _)
  obtain ⟨d1, d2⟩ := hsm (256 ^ size) (Nat.le_refl _)
  obtain ⟨rs, r1, r2, r3⟩ := vaLittle_ev (256 ^ size - n) size (by omega) (by omega) (by omega)
  rw [two_256] at t2
  have sb := NatSub_ev (256 ^ size) n (by omega) hfull
  have ev : Ev (fun k => spec_VaFixed.f k true (il (digs LB n)) (size : Int)) (il rs, true) := by
   refine Ev.congr (fun k => ?_) (Ev.bind (f := fun k t => (spec_NatCmp.f k (il (digs LB n)) t).bind fun t251 => if t251 > 0 then some (([] : List Int), false) else (spec_VaTwo.f k ((8 * size : Nat) : Int)).bind fun t252 => (spec_NatSub.f k t252 (il (digs LB n))).bind fun t255 => (spec_vaLittle.f k t255 (size : Int)).bind fun t258 => some (t258, true)) t1
    (Ev.bind (f := fun k t251 => if t251 > 0 then some (([] : List Int), false) else (spec_VaTwo.f k ((8 * size : Nat) : Int)).bind fun t252 => (spec_NatSub.f k t252 (il (digs LB n))).bind fun t255 => (spec_vaLittle.f k t255 (size : Int)).bind fun t258 => some (t258, true)) c1
     (Ev.congr (fun k => if_neg (by omega)) (Ev.bind t2 (Ev.bind (f := fun k t255 => (spec_vaLittle.f k t255 (size : Int)).bind fun t258 => some (t258, true)) sb (Ev.bind r3 (Ev.now _)))))))
   simp only [spec_VaFixed.f, if_true]
   rw [w1]
   simp only [w2]
  obtain ⟨k, hk⟩ := ev.rounds
  refine (spec_VaFixed.calls k true A0 c0 _ size _ _ w hr0 hc0 hk).mono ?_
  rintro e w' ⟨r, rfl, hr, hb⟩
  have ho := Kd.own_of_R hr
  have e2 : il rs = leB ((256 ^ size - n : Nat) : Int) size := leB_ext (by rw [il_length, r1]) (fun j hj => by rw [il_get, r2 j hj])
  rw [il_length, u8s_encs, e2, r1, leB_neg hfull] at ho
  exact ⟨r, rfl, ho, hb⟩
end Go.Proofs.YthocmhkafgpgbaaGreatDoor
namespace Go.Proofs.YthocmhkafgpgbaaGreatDoor
open Go.RowKit Go.Proofs.YthocmhkafgpgbaaGreatDoorW.PrintWords Go.Proofs.YthocmhkafgpgbaaGreatDoorW.PrintMore Go.Proofs.YthocmhkafgpgbaaGreatDoor.PFnVaFieldFixed
def okW (neg : Bool) (xs : List Nat) : Bool := (decide (xs.length = 0) || decide (xs.getD 0 0 ≠ 0)) && !(neg && decide (xs.length = 0))
theorem okW_beB {neg : Bool} {n : Nat} (h : neg = true → n ≠ 0) : okW neg (beB n) = true := by
 have hl : (beB n).length = 0 ↔ n = 0 := by
  rw [beB_length]
  constructor
  ·intro e; exact (digs_eq_nil (by omega)).1 (List.eq_nil_of_length_eq_zero e)
  ·rintro rfl; rw [digs_zero]; rfl
 have h1 : n ≠ 0 → (beB n).getD 0 0 ≠ 0 := fun hn h0 => by
  have hne : digs 256 n ≠ [] := fun e => hn ((digs_eq_nil (by omega)).1 e)
  have hlast := digs_last (B := 256) (by omega) n hne
  apply hlast
  rw [beB_digs] at h0
  rw [List.getLast_eq_getElem]
  have hp : 0 < (digs 256 n).length := List.length_pos_iff.2 hne
  rw [List.getD_eq_getElem?_getD, List.getElem?_reverse hp] at h0
  rw [List.getElem?_eq_getElem (by omega)] at h0
  simpa using h0
 unfold okW
 by_cases hn : n = 0
 ·have e := hl.2 hn
  cases neg with
  | false => simp [e]
  | true => exact absurd hn (h rfl)
 ·have e : ¬ (beB n).length = 0 := fun e => hn (hl.1 e)
  rw [decide_eq_false e, decide_eq_true (h1 hn)]
  simp
theorem okW_out {neg : Bool} {xs : List Nat} (hb : ∀ x ∈ xs, x < 256) (h : okW neg xs = true) : xs = beB (beVal xs) ∧ (neg = true → beVal xs ≠ 0) := by
 unfold okW at h
 have hx : xs = beB (beVal xs) := beB_of hb (by
  cases xs with
  | nil => exact .inl rfl
  | cons x ys =>
   right
   intro h0
   rw [h0] at h
   simp at h)
 refine ⟨hx, fun hn h0 => ?_⟩
 subst hn
 rw [h0] at hx
 have e : xs = [] := by rw [hx, beB_digs, digs_zero]; rfl
 subst e
 simp at h
end Go.Proofs.YthocmhkafgpgbaaGreatDoor
