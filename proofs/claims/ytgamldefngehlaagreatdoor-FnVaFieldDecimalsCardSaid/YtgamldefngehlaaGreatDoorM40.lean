/- Parts of the walk. -/
import Derived.Test.YtgamldefngehlaaGreatDoorM11
import Derived.Test.YtgamldefngehlaaGreatDoorM30
import Derived.Test.YtgamldefngehlaaGreatDoorM29
import Derived.Test.YtgamldefngehlaaGreatDoorM41
import Derived.Test.YtgamldefngehlaaGreatDoorM42
set_option linter.unusedVariables false
set_option linter.unusedSimpArgs false
namespace Go.Proofs.YtgamldefngehlaaGreatDoor
open Go.RowKit Go.Proofs.YtgamldefngehlaaGreatDoorW.PrintWords Go.Proofs.YtgamldefngehlaaGreatDoor.PFnVaFieldDecimals
theorem pow10_all : ∀ s : Fin 61, spec_Pow10.f 20 ((s.val : Nat) : Int) = some (il (List.replicate (s.val / 9) 0 ++ [10 ^ (s.val % 9)])) := by decide +kernel
theorem pow10_digs (s : Nat) : digs LB (10 ^ s) = List.replicate (s / 9) 0 ++ [10 ^ (s % 9)] := by
 have hlt : 10 ^ (s % 9) < LB := Nat.lt_of_lt_of_le (Nat.pow_lt_pow_right (by omega) (show s % 9 < 9 by omega)) (by rw [LB_eq]; decide)
 have e : 10 ^ s = val LB (List.replicate (s / 9) 0 ++ [10 ^ (s % 9)]) := by
  rw [val_append, val_replicate, List.length_replicate, val_one, Nat.zero_add, LB_eq, show (1000000000 : Nat) = 10 ^ 9 by decide, ← Nat.pow_mul, ← Nat.pow_add]
  congr 1
  omega
 rw [e]
 refine digs_val LB_one ((Words.replicate LB_pos _).append (.one hlt)) (fun _ => ?_)
 rw [List.getLast_append_of_ne_nil (by simp) (by simp)]
 simp
theorem Pow10_ev (s : Nat) (h : s ≤ 60) : Ev (fun k => spec_Pow10.f k (s : Int)) (il (digs LB (10 ^ s))) := by
 rw [pow10_digs s]
 exact Ev.of (spec_Pow10.mono _) (pow10_all ⟨s, by omega⟩)
theorem va_l0 (k : Nat) (X Z : List Int) (i n x : Nat) (hx : rd X (i : Int) = (x : Int)) (hi : i < X.length) (hn : n = X.length) (hi2 : i < 9223372036854775806) (hxl : x < 256) :
  spec_VaNat.l0 (k + 1) Z X (n : Int) (i : Int) = (spec_NatFrom.f k ((256 : Nat) : Int)).bind fun t138 => (spec_NatMul.f k Z t138).bind fun t141 => (spec_NatFrom.f k (x : Int)).bind fun t144 => (spec_NatAdd.f k t141 t144).bind fun t147 => spec_VaNat.l0 k t147 X (n : Int) ((i + 1 : Nat) : Int) := by
 have hw := wsucc hi2
 have e : IntKind.u64.wrap (x : Int) = (x : Int) := wu64 (by omega) (by omega)
 simp only [spec_VaNat.l0, hx, hw, e]
 have c1 : (i : Int) < (n : Int) := by omega
 have c2 : (0 : Int) ≤ (i : Int) := by omega
 have c3 : (i : Int) < (X.length : Int) := by omega
 rw [if_pos c1, if_pos c2, if_pos c3]
 rfl
theorem beV_snoc : ∀ (xs : List Nat) (x : Nat), val 256 (x :: xs) = val 256 xs * 256 + x := fun xs x => by simp [val]; omega
theorem vaNat_ev (xs : List Nat) (hb : ∀ x ∈ xs, x < 256) (hlen : xs.length ≤ 2147483648) (d : Nat) : ∀ i, xs.length - i = d → i ≤ xs.length →
  Ev (fun k => spec_VaNat.l0 k (il (digs LB (val 256 (xs.take i).reverse))) (il xs) (xs.length : Int) (i : Int)) (il (digs LB (val 256 xs.reverse))) := by
 have hlx := il_length xs
 induction d with
 | zero =>
  intro i hd hi
  obtain rfl : i = xs.length := by omega
  rw [List.take_length]
  refine ⟨1, fun k hk => ?_⟩
  obtain ⟨m, rfl⟩ : ∃ m, k = m + 1 := ⟨k - 1, by omega⟩
  have c1 : ¬ (xs.length : Int) < (xs.length : Int) := by omega
  simp only [spec_VaNat.l0]
  rw [if_neg c1]
 | succ d ih =>
  intro i hd hi
  have rx := rd_il xs i
  have gx : xs.getD i 0 = xs[i]'(by omega) := by simp [List.getD_eq_getElem?_getD, List.getElem?_eq_getElem (show i < xs.length by omega)]
  have bx : xs.getD i 0 < 256 := by rw [gx]; exact hb _ (List.getElem_mem _)
  have et : val 256 (xs.take (i + 1)).reverse = val 256 (xs.take i).reverse * 256 + xs.getD i 0 := by
   rw [List.take_add_one, List.getElem?_eq_getElem (show i < xs.length by omega), gx]
   simp only [Option.toList_some, List.reverse_append, List.reverse_cons, List.reverse_nil, List.nil_append, List.singleton_append]
   exact beV_snoc _ _
  have h := ih (i + 1) (by omega) (by omega)
  rw [et] at h
  have hV : val 256 (xs.take i).reverse < LB ^ i := by
   have hw : Words 256 (xs.take i).reverse := fun y hy => hb y (List.mem_of_mem_take (by simpa using hy))
   have := val_lt hw
   refine Nat.lt_of_lt_of_le this ?_
   simp only [List.length_reverse, List.length_take]
   rw [Nat.min_eq_left hi]
   exact Nat.pow_le_pow_left (by rw [LB_eq]; omega) i
  generalize val 256 (xs.take i).reverse = V at *
  have lV : (digs LB V).length ≤ i + 1 := (digs_length_le LB_one).2 (Nat.lt_of_lt_of_le hV (Nat.pow_le_pow_right LB_pos (by omega)))
  have l256 : (digs LB 256).length ≤ i + 1 := (digs_length_le LB_one).2 (Nat.lt_of_lt_of_le (show 256 < LB ^ 1 by rw [LB_eq]; decide) (Nat.pow_le_pow_right LB_pos (by omega)))
  have lV2 : (digs LB (V * 256)).length ≤ i + 1 := (digs_length_le LB_one).2 (by
   rw [Nat.pow_succ]
   exact Nat.lt_of_le_of_lt (Nat.mul_le_mul_left V (show 256 ≤ LB by rw [LB_eq]; omega)) (Nat.mul_lt_mul_of_pos_right hV LB_pos))
  have lx : (digs LB (xs.getD i 0)).length ≤ i + 1 := (digs_length_le LB_one).2 (Nat.lt_of_lt_of_le (show xs.getD i 0 < LB ^ 1 by rw [Nat.pow_one, LB_eq]; omega) (Nat.pow_le_pow_right LB_pos (by omega)))
  have hil : i < 9223372036854775806 := by omega
  have hi1 : i + 1 ≤ 8589934592 := by omega
  have hi3 : i + 1 ≤ 17179869184 := by omega
  have g1 := NatFrom_ev 256 (by omega)
  have g2 := NatMul_ev V 256 (i + 1) lV l256 hi1
  have g3 := NatFrom_ev (xs.getD i 0) (by omega)
  have g4 := NatAdd_ev (V * 256) (xs.getD i 0) (i + 1) lV2 lx hi3
  have hin : i < (il xs).length := by omega
  exact Ev.step (fun k => va_l0 k (il xs) _ i xs.length _ rx hin hlx.symm hil bx) (Ev.bind g1 (Ev.bind g2 (Ev.bind g3 (Ev.bind g4 h))))
theorem VaNat_ev (xs : List Nat) (hb : ∀ x ∈ xs, x < 256) (hlen : xs.length ≤ 2147483648) : Ev (fun k => spec_VaNat.f k (il xs)) (il (digs LB (val 256 xs.reverse))) := by
 have h := vaNat_ev xs hb hlen xs.length 0 (by omega) (by omega)
 have e : il (digs LB (val 256 (xs.take 0).reverse)) = [] := by simp [val, digs_zero, il]
 rw [e, ← il_length] at h
 exact h
theorem by_l0 (k : Nat) (X Z : List Int) (h : 0 < X.length) (hz : Z.length < 140737488355328) : spec_VaBytes.l0 (k + 1) X Z = (spec_natShort.f k X 256).bind fun t => spec_VaBytes.l0 k t.1 (Z ++ [t.2 % 256]) := by
 have c1 : (X.length : Int) > 0 := by omega
 simp only [spec_VaBytes.l0]
 rw [if_pos c1]
 simp only [if_pos hz]
theorem by_l0_end (k : Nat) (Z : List Int) (hz : Z.length < 140737488355328) : spec_VaBytes.l0 (k + 1) [] Z = spec_VaBytes.l1 k Z ((0 : Nat) : Int) ((Z.length : Int) - 1) := by
 have hw := wpred (i := Z.length) (by omega)
 simp only [spec_VaBytes.l0, hw]
 rfl
theorem by_l1 (k : Nat) (Z : List Int) (i j x y : Nat) (hx : rd Z (i : Int) = (x : Int)) (hy : rd Z (j : Int) = (y : Int)) (hij : i < j) (hj : j < Z.length) (hj2 : j < 9223372036854775806) :
  spec_VaBytes.l1 (k + 1) Z (i : Int) (j : Int) = spec_VaBytes.l1 k ((Z.set i (y : Int)).set j (x : Int)) ((i + 1 : Nat) : Int) ((j : Int) - 1) := by
 have hw := wsucc (i := i) (by omega)
 have hw2 := wpred hj2
 simp only [spec_VaBytes.l1, hx, hy, hw, hw2]
 have c1 : (i : Int) < (j : Int) := by omega
 have c2 : (0 : Int) ≤ (j : Int) := by omega
 have c3 : (j : Int) < (Z.length : Int) := by omega
 have c4 : (0 : Int) ≤ (i : Int) := by omega
 have c5 : (i : Int) < (Z.length : Int) := by omega
 have c6 : ((i : Int)).toNat = i := by omega
 have c7 : ((j : Int)).toNat = j := by omega
 rw [if_pos c1, if_pos c2, if_pos c3, if_pos c4, if_pos c5, c6, c7]
theorem by_l1_end (k : Nat) (Z : List Int) (i j : Int) (h : ¬ i < j) : spec_VaBytes.l1 (k + 1) Z i j = some Z := by
 simp only [spec_VaBytes.l1]
 rw [if_neg h]
def half (xs : List Nat) (i : Nat) (zs : List Nat) : Prop := zs.length = xs.length ∧ ∀ p, p < xs.length → zs.getD p 0 = if p < i ∨ xs.length ≤ p + i then xs.getD (xs.length - 1 - p) 0 else xs.getD p 0
theorem getD_set_eq (xs : List Nat) (p d : Nat) (h : p < xs.length) : (xs.set p d).getD p 0 = d := by simp [List.getD_eq_getElem?_getD, h]
theorem half_end {xs zs : List Nat} {i : Nat} (h : half xs i zs) (hi : xs.length ≤ 2 * i + 1) : zs = xs.reverse := by
 refine List.ext_getElem (by simp [h.1]) (fun p h1 h2 => ?_)
 have hp : p < xs.length := by rw [← h.1]; exact h1
 have := h.2 p hp
 have e : zs.getD p 0 = zs[p] := by simp [List.getD_eq_getElem?_getD, List.getElem?_eq_getElem h1]
 rw [List.getElem_reverse, ← e, this]
 split
 ·simp [List.getD_eq_getElem?_getD, List.getElem?_eq_getElem (show xs.length - 1 - p < xs.length by omega)]
 ·obtain hq : xs.length - 1 - p = p := by omega
  simp [hq, List.getD_eq_getElem?_getD, List.getElem?_eq_getElem hp]
theorem half_step {xs zs : List Nat} {i : Nat} (h : half xs i zs) (hi : 2 * i + 1 < xs.length) : half xs (i + 1) ((zs.set i (zs.getD (xs.length - 1 - i) 0)).set (xs.length - 1 - i) (zs.getD i 0)) := by
 obtain ⟨hl, hg⟩ := h
 refine ⟨by simp [hl], fun p hp => ?_⟩
 have a := hg i (by omega)
 have b := hg (xs.length - 1 - i) (by omega)
 rw [if_neg (by omega)] at a b
 by_cases h1 : p = xs.length - 1 - i
 ·subst h1
  rw [getD_set_eq _ _ _ (by simp; omega), if_pos (by omega), a]
  congr 1
  omega
 ·rw [getD_set_ne _ _ _ _ (fun e => h1 e.symm)]
  by_cases h2 : p = i
  ·subst h2
   rw [getD_set_eq _ _ _ (by omega), if_pos (by omega), b]
  ·rw [getD_set_ne _ _ _ _ (fun e => h2 e.symm), hg p hp]
   by_cases h3 : p < i ∨ xs.length ≤ p + i
   ·rw [if_pos h3, if_pos (by omega)]
   ·rw [if_neg h3, if_neg (by omega)]
theorem rev_ev (xs : List Nat) (hlen : xs.length ≤ 8589934592) (d : Nat) : ∀ (i : Nat) (zs : List Nat), xs.length - 2 * i ≤ d → half xs i zs → Ev (fun k => spec_VaBytes.l1 k (il zs) (i : Int) ((xs.length : Int) - 1 - (i : Int))) (il xs.reverse) := by
 induction d with
 | zero =>
  intro i zs hd h
  rw [half_end h (by omega)]
  have c : ¬ (i : Int) < (xs.length : Int) - 1 - (i : Int) := by omega
  exact Ev.step (fun k => by_l1_end k _ _ _ c) (Ev.now _)
 | succ d ih =>
  intro i zs hd h
  by_cases hi : 2 * i + 1 < xs.length
  ·have hlz := il_length zs
   have hl := h.1
   have rx := rd_il zs i
   have ry := rd_il zs (xs.length - 1 - i)
   have e1 : (xs.length : Int) - 1 - (i : Int) = ((xs.length - 1 - i : Nat) : Int) := by omega
   have e2 : ((xs.length - 1 - i : Nat) : Int) - 1 = (xs.length : Int) - 1 - ((i + 1 : Nat) : Int) := by omega
   have e3 : i < xs.length - 1 - i := by omega
   have e4 : xs.length - 1 - i < (il zs).length := by omega
   have e5 : xs.length - 1 - i < 9223372036854775806 := by omega
   rw [e1]
   refine Ev.step (fun k => by_l1 k (il zs) i (xs.length - 1 - i) _ _ rx ry e3 e4 e5) ?_
   rw [il_set, il_set, e2]
   exact ih (i + 1) _ (by omega) (half_step h hi)
  ·rw [half_end h (by omega)]
   have c : ¬ (i : Int) < (xs.length : Int) - 1 - (i : Int) := by omega
   exact Ev.step (fun k => by_l1_end k _ _ _ c) (Ev.now _)
theorem vaBytes_ev (hM : True) (d : Nat) : ∀ (n : Nat) (os : List Nat), (digs 256 n).length = d → os.length + d ≤ 4294967296 → (digs LB n).length ≤ 4294967296 → Ev (fun k => spec_VaBytes.l0 k (il (digs LB n)) (il os)) (il (os ++ digs 256 n).reverse) := by
 induction d with
 | zero =>
  intro n os hd hl _
  have h0 : n = 0 := (digs_eq_nil (by omega)).1 (List.eq_nil_of_length_eq_zero hd)
  subst h0
  rw [digs_zero, digs_zero, List.append_nil]
  have hlo := il_length os
  have e : il ([] : List Nat) = [] := rfl
  rw [e]
  have c : (il os).length < 140737488355328 := by omega
  have h := rev_ev os (by omega) os.length 0 os (by omega) ⟨rfl, fun p hp => by rw [if_neg (by omega)]⟩
  have e2 : (os.length : Int) - 1 - ((0 : Nat) : Int) = ((il os).length : Int) - 1 := by omega
  rw [e2] at h
  exact Ev.step (fun k => by_l0_end k _ c) h
 | succ d ih =>
  intro n os hd hl hn
  have h0 : n ≠ 0 := fun e => by subst e; rw [digs_zero] at hd; simp at hd
  have e := digs_pos (B := 256) (by omega) h0
  have hlo := il_length os
  have hlx := il_length (digs LB n)
  have hpos := (digs_len_pos LB_one).2 h0
  have c1 : 0 < (il (digs LB n)).length := by omega
  have c2 : (il os).length < 140737488355328 := by omega
  have g1 := NatShort_ev n (by omega)
  have hq : (digs LB (n / 256)).length ≤ 4294967296 := Nat.le_trans (digs_length_mono LB_one (Nat.div_le_self n 256)) hn
  have h := ih (n / 256) (os ++ [n % 256]) (len_tail e hd) (by simp; omega) hq
  have e2 : os ++ digs 256 n = os ++ [n % 256] ++ digs 256 (n / 256) := by rw [e]; simp
  rw [e2]
  have e3 : ((n % 256 : Nat) : Int) % 256 = ((n % 256 : Nat) : Int) := by omega
  have e4 : il (os ++ [n % 256]) = il os ++ [((n % 256 : Nat) : Int) % 256] := by rw [il_append, e3]; rfl
  rw [e4] at h
  exact Ev.step (fun k => by_l0 k _ _ c1 c2) (Ev.bind g1 h)
theorem VaBytes_ev (n : Nat) (h1 : (digs 256 n).length ≤ 4294967296) (h2 : (digs LB n).length ≤ 4294967296) : Ev (fun k => spec_VaBytes.f k (il (digs LB n))) (il (digs 256 n).reverse) := by
 have h := vaBytes_ev trivial (digs 256 n).length n [] rfl (by simpa using h1) h2
 exact h
end Go.Proofs.YtgamldefngehlaaGreatDoor
namespace Go.Proofs.YtgamldefngehlaaGreatDoor
open Go.RowKit Go.Proofs.YtgamldefngehlaaGreatDoorW.PrintWords Go.Proofs.YtgamldefngehlaaGreatDoorW.PrintMore Go.Proofs.YtgamldefngehlaaGreatDoorW.PrintLast Go.Proofs.YtgamldefngehlaaGreatDoor.PFnVaFieldDecimals
theorem Reads.out {k : IntKind} {w : World} {v : Value} {xs : List Nat} (h : Reads k w v xs) : ∃ A c, v = .slice A (il xs).length c ∧ (il xs).length ≤ c ∧ (Kd.int k).C w A (il xs).length (il xs) := by
 rw [il_length]; exact h
theorem Reads.mk {k : IntKind} {w : World} {A : Option Addr} {c : Nat} {xs : List Nat} (hl : (il xs).length ≤ c) (h : (Kd.int k).C w A (il xs).length (il xs)) : Reads k w (.slice A (il xs).length c) xs := by
 rw [il_length] at *; exact ⟨A, c, rfl, hl, h⟩
theorem Reads.of_V {k : IntKind} {e : Nat} {w : World} {base : Nat} {ok : Nat → Prop} {v : Value} {xs : List Nat} (h : Kd.V (Kd.int k) e w base ok v (il xs)) : Reads k w v xs := by
 obtain ⟨A, c, rfl, hl, hf⟩ := h
 exact Reads.mk hl (Kd.F_now hf)
theorem bytesIn_of_own {w : World} {base : Nat} {v : Value} {xs : List Nat} (hb : ∀ x ∈ xs, x < 256) (h : w.ownsRow base 5 1 v xs.length (u8s (il xs))) : BytesIn w v xs := by
 rcases h.2 with ⟨rfl, h0⟩ | ⟨g, cap, cur, rfl, hg, hh, hc, hm, hs, ht⟩
 ·obtain rfl := List.eq_nil_of_length_eq_zero h0
  exact ⟨none, 0, rfl, hb, .inl rfl⟩
 ·refine ⟨some ⟨g, 0, none⟩, cap, rfl, hb, .inr ⟨g, rfl, hc, fun j hj => ?_, (Array.getElem?_eq_some_iff.1 hh).1⟩⟩
  have := h.cells (g := g) rfl j (.int .u8 (xs[j] : Int)) (by simp [il, hj])
  rw [Addr.add_lit] at this
  exact this
theorem u8s_encs (xs : List Int) : encs (Value.int .u8) xs = u8s xs := rfl
section
variable {w : World} {u v : Value} {a b : Nat}
theorem natMul_any (hu : NatS w u a) (hv : NatS w v b) (M : Nat) (ha : (digs LB a).length ≤ M) (hb : (digs LB b).length ≤ M) (hM : M ≤ 8589934592) :
  Calls Tryz.prog 14 #[u, v] w fun e w' => ∃ r, e = .returned r ∧ NatS w' r (a * b) ∧ Below w.heap.size w w' := by
 obtain ⟨A0, c0, rfl, hc0, hr0⟩ := Reads.out hu
 obtain ⟨A1, c1, rfl, hc1, hr1⟩ := Reads.out hv
 obtain ⟨k, hk⟩ := (NatMul_ev a b M ha hb hM).rounds
 refine (spec_NatMul.calls k A0 c0 _ A1 c1 _ _ w hr0 hc0 hr1 hc1 hk).mono ?_
 rintro e w' ⟨r, rfl, hr, hb⟩
 exact ⟨r, rfl, Reads.of_V hr, hb⟩
theorem vaNat_any {xs : List Nat} (hu : Reads .u8 w u xs) (hb : ∀ x ∈ xs, x < 256) (hl : xs.length ≤ 2147483648) :
  Calls Tryz.prog 36 #[u] w fun e w' => ∃ r, e = .returned r ∧ NatS w' r (beVal xs) ∧ Below w.heap.size w w' := by
 obtain ⟨A0, c0, rfl, hc0, hr0⟩ := Reads.out hu
 obtain ⟨k, hk⟩ := (VaNat_ev xs hb hl).rounds
 rw [← beVal_rev, List.reverse_reverse] at hk
 refine (spec_VaNat.calls k A0 c0 _ _ w hr0 hc0 hk).mono ?_
 rintro e w' ⟨r, rfl, hr, hb⟩
 exact ⟨r, rfl, Reads.of_R hr, hb⟩
theorem pow10_any (w : World) (s : Nat) (h : s ≤ 60) :
  Calls Tryz.prog 15 #[.int .i64 s] w fun e w' => ∃ r, e = .returned r ∧ NatS w' r (10 ^ s) ∧ Below w.heap.size w w' := by
 obtain ⟨k, hk⟩ := (Pow10_ev s h).rounds
 refine (spec_Pow10.calls k s _ w hk).mono ?_
 rintro e w' ⟨r, rfl, hr, hb⟩
 exact ⟨r, rfl, Reads.of_R hr, hb⟩
theorem one_any (w : World) : Calls Tryz.prog 16 #[] w fun e w' => ∃ r, e = .returned r ∧ NatS w' r 1 ∧ Below w.heap.size w w' := by
 have h : spec_one.f = some (il (digs LB 1)) := by rw [digs_small LB_one (by omega) (by rw [LB_eq]; omega)]; rfl
 refine (spec_one.calls _ w h).mono ?_
 rintro e w' ⟨r, rfl, hr, hb⟩
 exact ⟨r, rfl, Reads.of_R hr, hb⟩
theorem fits_any {xs : List Nat} (neg : Bool) (hu : Reads .u8 w u xs) :
  Calls Tryz.prog 4 #[.agg #[.bool neg, u]] w fun e w' => e = .returned (.bool (decide (xs.length ≤ 2147483647))) ∧ Below w.heap.size w w' := by
 obtain ⟨A0, c0, rfl, hc0, hr0⟩ := Reads.out hu
 have h : laws_zzFits4.f neg (il xs) = some (decide (xs.length ≤ 2147483647)) := by
  simp only [laws_zzFits4.f, il_length]
  by_cases h : xs.length ≤ 2147483647
  ·rw [if_neg (by omega), decide_eq_true h]
  ·rw [if_pos (by omega), decide_eq_false h]
 exact laws_zzFits4.calls neg A0 c0 _ _ w hr0 hc0 h
end
end Go.Proofs.YtgamldefngehlaaGreatDoor
namespace Go.Proofs.YtgamldefngehlaaGreatDoor
open Go.RowKit Go.Proofs.YtgamldefngehlaaGreatDoorW.PrintWords Go.Proofs.YtgamldefngehlaaGreatDoorW.PrintMore Go.Proofs.YtgamldefngehlaaGreatDoor.PFnVaFieldDecimals
theorem box2 {w : World} {b : Nat} {x0 x1 : Value} {t : TypeId} (h : w.heap[b]? = some (.cells #[x0, x1] t (0, 0))) (y0 y1 : Value) : ((w.setCell ⟨b, 0, none⟩ y0).setCell ⟨b, 1, none⟩ y1).heap[b]? = some (.cells #[y0, y1] t (0, 0)) :=
 blk_setCell (blk_setCell h 0 y0) 1 y1
set_option maxRecDepth 100000 in
theorem wholeOf_any (w : World) (neg : Bool) (A : Option Addr) (L c : Nat) :
  Calls Tryz.prog 13 #[.bool neg, .slice A L c] w fun e w' => e = .returned (.agg #[.bool (neg && decide (0 < L)), .slice A L c]) ∧ Below w.heap.size w w' := by
 cases neg with
 | false =>
  go_enter Tryz.func13, Tryz.ntmps13
  go_wp2_with fail
  exact ⟨rfl, _, results_cell_row Tryz.results13 _ _ w.heap.size 29 _ (0, 0) _ rfl (blk_new _ _) Tryz.underlying29 rfl (by kernel_rfl), rfl, (Below.refl _ w).alloc (Nat.le_refl _) _⟩
 | true =>
  go_enter Tryz.func13, Tryz.ntmps13
  by_cases h : 0 < L
  ·have h' : (0 : Int) < (L : Int) := by omega
   go_wp2_with fail
   exact ⟨rfl, _, results_cell_row Tryz.results13 _ _ w.heap.size 29 _ (0, 0) _ rfl (blk_new _ _) Tryz.underlying29 rfl (by kernel_rfl), by simp [h], (Below.refl _ w).alloc (Nat.le_refl _) _⟩
  ·have h' : ¬ (0 : Int) < (L : Int) := by omega
   go_wp2_with fail
   exact ⟨rfl, _, results_cell_row Tryz.results13 _ _ w.heap.size 29 _ (0, 0) _ rfl (blk_new _ _) Tryz.underlying29 rfl (by kernel_rfl), by simp [h], (Below.refl _ w).alloc (Nat.le_refl _) _⟩
theorem vaRatOf_any {w : World} {v u : Value} {n d : Nat} (neg : Bool) (hn : NatS w v n) (hd : NatS w u d) (h1 : (digs 256 n).length ≤ 4294967296) (h2 : (digs LB n).length ≤ 4294967296) (h3 : (digs 256 d).length ≤ 4294967296) (h4 : (digs LB d).length ≤ 4294967296) :
  Calls Tryz.prog 8 #[.agg #[.bool neg, v, u]] w fun e w' => ∃ r s, e = .returned (.agg #[.bool neg, r, s]) ∧ BytesIn w' r (beB n) ∧ BytesIn w' s (beB d) ∧ Below w.heap.size w w' := by
 obtain ⟨A0, c0, rfl, hc0, hr0⟩ := Reads.out hn
 obtain ⟨A1, c1, rfl, hc1, hr1⟩ := Reads.out hd
 have e1 := VaBytes_ev n h1 h2
 have e2 := VaBytes_ev d h3 h4
 rw [← beB_digs] at e1 e2
 have e3 : Ev (fun k => spec_VaBig.f k neg (il (digs LB n))) (neg, il (beB n)) := Ev.bind e1 (Ev.now _)
 have e4 : Ev (fun k => spec_VaRatOf.f k neg (il (digs LB n)) (il (digs LB d))) (neg, il (beB n), il (beB d)) := Ev.bind e3 (Ev.bind e2 (Ev.now _))
 obtain ⟨k, hk⟩ := e4.rounds
 refine (spec_VaRatOf.calls k neg A0 c0 _ A1 c1 _ _ _ _ w hr0 hc0 hr1 hc1 hk).mono ?_
 rintro e w' ⟨r, s, rfl, hr, hs, hb⟩
 have o1 := Kd.own_of_R hr
 have o2 := Kd.own_of_R hs
 rw [il_length, u8s_encs] at o1 o2
 exact ⟨r, s, rfl, bytesIn_of_own (beB_lt n) o1, bytesIn_of_own (beB_lt d) o2, hb⟩
theorem cmpN_self (a : Nat) : cmpN a a = 0 := by simp [cmpN]
theorem wholeCmp_any {w : World} {v u : Value} {n : Nat} (neg : Bool) (hn : NatS w v n) (hd : NatS w u n) (h : (digs LB n).length ≤ 17179869184) :
  Calls Tryz.prog 55 #[.agg #[.bool neg, v], .agg #[.bool neg, u]] w fun e w' => e = .returned (.int .i64 0) ∧ Below w.heap.size w w' := by
 obtain ⟨A0, c0, rfl, hc0, hr0⟩ := Reads.out hn
 obtain ⟨A1, c1, rfl, hc1, hr1⟩ := Reads.out hd
 obtain ⟨k, hk⟩ := (NatCmp_ev n n h).rounds
 rw [cmpN_self] at hk
 have e : spec_Whole_Cmp.f (k + 1) neg (il (digs LB n)) neg (il (digs LB n)) = some 0 := by
  cases neg <;> simp [spec_Whole_Cmp.f, spec_Whole_Cmp.j0, hk]
 exact spec_Whole_Cmp.calls _ neg A0 c0 _ neg A1 c1 _ _ w hr0 hc0 hr1 hc1 e
end Go.Proofs.YtgamldefngehlaaGreatDoor
namespace Go.Proofs.YtgamldefngehlaaGreatDoor
open Go.RowKit Go.Proofs.YtgamldefngehlaaGreatDoorW.PrintWords Go.Proofs.YtgamldefngehlaaGreatDoorW.PrintMore Go.Proofs.YtgamldefngehlaaGreatDoor.PFnVaFieldDecimals
def okW (neg : Bool) (xs : List Nat) : Bool := (decide (xs.length = 0) || decide (xs.getD 0 0 ≠ 0)) && !(neg && decide (xs.length = 0))
theorem okW_beB {neg : Bool} {n : Nat} (h : neg = true → n ≠ 0) : okW neg (beB n) = true := by
 have hl : (beB n).length = 0 ↔ n = 0 := by
  rw [beB_length]
  constructor
  ·intro e; exact (digs_eq_nil (by omega)).1 (List.eq_nil_of_length_eq_zero e)
  ·rintro rfl; rw [digs_zero]; rfl
 have h1 : n ≠ 0 → (beB n).getD 0 0 ≠ 0 := fun hn h0 => by
  have hne : digs 256 n ≠ [] := fun e => hn ((digs_eq_nil (by omega)).1 e)
  have hlast := digs_last (B := 256) (by omega) n hne
  apply hlast
  rw [beB_digs] at h0
  rw [List.getLast_eq_getElem]
  have hp : 0 < (digs 256 n).length := List.length_pos_iff.2 hne
  rw [List.getD_eq_getElem?_getD, List.getElem?_reverse hp] at h0
  rw [List.getElem?_eq_getElem (by omega)] at h0
  simpa using h0
 unfold okW
 by_cases hn : n = 0
 ·have e := hl.2 hn
  cases neg with
  | false => simp [e]
  | true => exact absurd hn (h rfl)
 ·have e : ¬ (beB n).length = 0 := fun e => hn (hl.1 e)
  rw [decide_eq_false e, decide_eq_true (h1 hn)]
  simp
theorem okW_out {neg : Bool} {xs : List Nat} (hb : ∀ x ∈ xs, x < 256) (h : okW neg xs = true) : xs = beB (beVal xs) ∧ (neg = true → beVal xs ≠ 0) := by
 unfold okW at h
 have hx : xs = beB (beVal xs) := beB_of hb (by
  cases xs with
  | nil => exact .inl rfl
  | cons x ys =>
   right
   intro h0
   rw [h0] at h
   simp at h)
 refine ⟨hx, fun hn h0 => ?_⟩
 subst hn
 rw [h0] at hx
 have e : xs = [] := by rw [hx, beB_digs, digs_zero]; rfl
 subst e
 simp at h
end Go.Proofs.YtgamldefngehlaaGreatDoor
namespace Go.Proofs.YtgamldefngehlaaGreatDoor
open Go.RowKit Go.Proofs.YtgamldefngehlaaGreatDoorW.PrintWords Go.Proofs.YtgamldefngehlaaGreatDoorW.PrintMore Go.Proofs.YtgamldefngehlaaGreatDoorW.PrintLast
theorem box3 {w : World} {b : Nat} {x0 x1 x2 : Value} {t : TypeId} (h : w.heap[b]? = some (.cells #[x0, x1, x2] t (0, 0))) (y0 y1 y2 : Value) : (((w.setCell ⟨b, 0, none⟩ y0).setCell ⟨b, 1, none⟩ y1).setCell ⟨b, 2, none⟩ y2).heap[b]? = some (.cells #[y0, y1, y2] t (0, 0)) :=
 blk_setCell (blk_setCell (blk_setCell h 0 y0) 1 y1) 2 y2
theorem two_boxes (w : World) (o1 o2 : Obj) : ((w.alloc o1).alloc o2).heap[w.heap.size]? = some o1 ∧ ((w.alloc o1).alloc o2).heap[w.heap.size + 1]? = some o2 ∧ Below w.heap.size w ((w.alloc o1).alloc o2) ∧ ((w.alloc o1).alloc o2).heap.size = w.heap.size + 2 := by
 have hs : (w.alloc o1).heap.size = w.heap.size + 1 := by simp
 refine ⟨blk_alloc (blk_new _ _) _, ?_, ((Below.refl _ w).alloc (Nat.le_refl _) _).alloc (by omega) _, by simp⟩
 have := blk_new (w.alloc o1) o2
 rw [hs] at this
 exact this
theorem Reads.other {k : IntKind} {w w' : World} {v : Value} {xs : List Nat} {b : Nat} {cs : Array Value} {t : TypeId} (h : Reads k w v xs) (hb : w.heap[b]? = some (.cells cs t (0, 0))) (hcs : ∀ (j : Nat) (x : Int), cs[j]? ≠ some (Value.int k x)) (hw : ∀ j, j ≠ b → w'.heap[j]? = w.heap[j]?) : Reads k w' v xs := by
 obtain ⟨A, c, rfl, hc, h1, h2, h3⟩ := h
 refine ⟨A, c, rfl, hc, h1, h2, fun hn => ?_⟩
 obtain ⟨ad, e, hcell⟩ := h3 hn
 refine ⟨ad, e, fun j p hp => ?_⟩
 obtain ⟨cc, hl, hk, hx⟩ := hcell j p hp
 refine ⟨cc, hl, hk, fun i u hu => ?_⟩
 have hh := hx i u hu
 have hu2 : u = .int k p := by
  have hk' : cc = [.int k p] := hk
  rw [hk'] at hu
  cases i with
  | zero => simpa using hu.symm
  | succ i => simp at hu
 have hsp := World.cell?_spot hh
 generalize ad.add (j * (Kd.int k).sz + i) = q at *
 obtain ⟨qb, qo, qs⟩ := q
 simp only at hsp
 subst hsp
 by_cases hq : qb = b
 ·subst hq
  rw [cellOf hb, hu2] at hh
  exact absurd hh (hcs qo p)
 ·exact (World.cell?_of_block (hw qb hq)).trans hh
theorem put3_heap (w : World) (b : Nat) (y0 y1 y2 : Value) (j : Nat) (h : j ≠ b) : (((w.setCell ⟨b, 0, none⟩ y0).setCell ⟨b, 1, none⟩ y1).setCell ⟨b, 2, none⟩ y2).heap[j]? = w.heap[j]? :=
 (Below.heap_setCell _ _ _ _ h).trans ((Below.heap_setCell _ _ _ _ h).trans (Below.heap_setCell _ _ _ _ h))
theorem put2_heap (w : World) (b : Nat) (y0 y1 : Value) (j : Nat) (h : j ≠ b) : ((w.setCell ⟨b, 0, none⟩ y0).setCell ⟨b, 1, none⟩ y1).heap[j]? = w.heap[j]? :=
 (Below.heap_setCell _ _ _ _ h).trans (Below.heap_setCell _ _ _ _ h)
theorem put3_below {w w1 : World} {b : Nat} (h : Below w.heap.size w w1) (hb : w.heap.size ≤ b) (y0 y1 y2 : Value) : Below w.heap.size w (((w1.setCell ⟨b, 0, none⟩ y0).setCell ⟨b, 1, none⟩ y1).setCell ⟨b, 2, none⟩ y2) :=
 ((h.setCell hb _).setCell hb _).setCell hb _
theorem put2_below {w w1 : World} {b : Nat} (h : Below w.heap.size w w1) (hb : w.heap.size ≤ b) (y0 y1 : Value) : Below w.heap.size w ((w1.setCell ⟨b, 0, none⟩ y0).setCell ⟨b, 1, none⟩ y1) :=
 (h.setCell hb _).setCell hb _
theorem noInt3 (k : IntKind) (b : Bool) (A B : Option Addr) (n m c d : Nat) : ∀ (j : Nat) (x : Int), (#[Value.bool b, .slice A n c, .slice B m d] : Array Value)[j]? ≠ some (Value.int k x) := by
 intro j x
 match j with
 | 0 => simp
 | 1 => simp
 | 2 => simp
 | j + 3 => simp
theorem noInt2 (k : IntKind) (b : Bool) (A : Option Addr) (n c : Nat) : ∀ (j : Nat) (x : Int), (#[Value.bool b, .slice A n c] : Array Value)[j]? ≠ some (Value.int k x) := by
 intro j x
 match j with
 | 0 => simp
 | 1 => simp
 | j + 2 => simp
theorem below_then' {w w1 w2 : World} (h : Below w.heap.size w w1) (k : Below w1.heap.size w1 w2) : Below w.heap.size w w2 := h.trans (k.mono h.size)
set_option maxRecDepth 100000 in
theorem decFrac1_any {w : World} {v : Value} {n s : Nat} (neg : Bool) (h : NatS w v n) (hs : 0 < s) (hs2 : s ≤ 60) :
  Calls Tryz.prog 6 #[.agg #[.bool neg, v, .int .i64 (-(s : Int))]] w fun e w' => ∃ r, e = .returned (.agg #[.bool neg, v, r]) ∧ NatS w' r (10 ^ s) ∧ Below w.heap.size w w' := by
 obtain ⟨A, c, rfl, hc, hr⟩ := h
 clear hc hr
 generalize (digs LB n).length = L
 have c1 : ¬ (0 : Int) ≤ -(s : Int) := by omega
 have hw : IntKind.i64.wrap (s : Int) = (s : Int) := by simp [IntKind.wrap, IntKind.bits, IntKind.signed]; omega
 obtain ⟨b0, b1, hbel, hsz⟩ := two_boxes w (.cells #[.bool neg, .slice A L c, .int .i64 (-(s : Int))] 35 (0, 0)) (.cells #[.bool false, .slice none 0 0, .slice none 0 0] 33 (0, 0))
 have hw' := Lib.hid hw
 clear hw
 go_enter Tryz.func6, Tryz.ntmps6
 go_wp2_with fail
 generalize (w.alloc (.cells #[.bool neg, .slice A L c, .int .i64 (-(s : Int))] 35 (0, 0))).alloc (.cells #[.bool false, .slice none 0 0, .slice none 0 0] 33 (0, 0)) = W0 at *
 have k0 : W0.cell? ⟨w.heap.size, 0, none⟩ = some (.bool neg) := by rw [cellOf b0]; rfl
 have k1 : W0.cell? ⟨w.heap.size, 1, none⟩ = some (.slice A L c) := by rw [cellOf b0]; rfl
 have k2 : W0.cell? ⟨w.heap.size, 2, none⟩ = some (.int .i64 (-(s : Int))) := by rw [cellOf b0]; rfl
 have hw2 := hw'.out
 refine start_ (n := 8) (S := fun W => W.cell? ⟨w.heap.size, 0, none⟩ = some (.bool neg) ∧ W.cell? ⟨w.heap.size, 1, none⟩ = some (.slice A L c) ∧ W.cell? ⟨w.heap.size, 2, none⟩ = some (.int .i64 (-(s : Int)))) (ds := [7]) z177 (by kernel_rfl) rfl rfl ⟨k0, k1, k2⟩ (fun hHeld => ?_)
 refine stq 0 19 z178 ?_
 refine take_ (i := 1) (N := some 20) (v := ?_) (a' := ?_) z217 rfl rfl (by kernel_rfl) (fun _ _ _ h => h) (Or.inl ⟨by rfl, ?_⟩) hHeld ?_ ?_
 rotate_left
 ·rintro w' ⟨s0, s1, s2⟩; go_simp; try with_reducible rfl
 rotate_left
 ·simp only [Act.put, sA, sB, sC]; rfl
 refine stq 2 21 z218 ?_
 refine take_ (i := 3) (N := some 22) (v := ?_) (a' := ?_) z219 rfl rfl (by kernel_rfl) (fun _ _ _ h => h) (Or.inl ⟨by rfl, ?_⟩) hHeld ?_ ?_
 rotate_left
 ·rintro w' ⟨s0, s1, s2⟩; go_simp; try with_reducible rfl
 rotate_left
 ·simp only [Act.put, sA, sB, sC]; rfl
 refine stq 4 23 z182 ?_
 refine one_ (i := 5) (N := some 24) z183 rfl rfl (by kernel_rfl) (by decide) (fun K hK => ?_)
 refine goes_ Tryz.func15 (by kernel_rfl) rfl #[.int .i64 s] (by rfl) rfl rfl (by first | rfl | simp [Act.eval]) ?_
 refine (pow10_any W0.drew s hs2).mono ?_
 rintro e w1 ⟨r, rfl, hr, hb⟩
 have hb : Below W0.heap.size W0 w1 := ⟨hb.os, hb.tape, hb.output, hb.size, hb.block⟩
 obtain ⟨A2, c2, rfl, hc2, hr2⟩ := hr
 have b2 := (hb.block _ (by omega)).trans b1
 have f0 := frozenOf b2
 have e0 : w1.cell? ⟨w.heap.size + 1, 0, none⟩ = some (.bool false) := by rw [cellOf b2]; rfl
 have e1 : w1.cell? ⟨w.heap.size + 1, 1, none⟩ = some (.slice none 0 0) := by rw [cellOf b2]; rfl
 have e2 : w1.cell? ⟨w.heap.size + 1, 2, none⟩ = some (.slice none 0 0) := by rw [cellOf b2]; rfl
 have b3 := (hb.block _ (by omega)).trans b0
 have g0 : w1.cell? ⟨w.heap.size, 0, none⟩ = some (.bool neg) := by rw [cellOf b3]; rfl
 have g1 : w1.cell? ⟨w.heap.size, 1, none⟩ = some (.slice A L c) := by rw [cellOf b3]; rfl
 have g2 : w1.cell? ⟨w.heap.size, 2, none⟩ = some (.int .i64 (-(s : Int))) := by rw [cellOf b3]; rfl
 refine ⟨_, rfl, ?_⟩
 refine hK.out _ _ ⟨g0, g1, g2⟩ (fun hHeld => ?_)
 clear hK K
 refine norm_ (a' := ?_) ?_ ?_
 rotate_left
 ·simp only [Act.put, sA, sB, sC]; rfl
 refine stq 6 25 z184 ?_
 refine last_ (i := 7) (N := none) z185 rfl rfl (by kernel_rfl) (by decide) (fun K hK => ?_)
 refine skip_ (w1 := ?_) (by rfl) rfl ?_ ?_
 rotate_left
 ·go_simp; try rfl
 refine hK.out _ _ ?_
 clear hK K
 refine done_ (by kernel_rfl) ?_
 go_wp2_with fail
 exact ⟨rfl, _, results_cell_row Tryz.results6 _ _ (w.heap.size + 1) 33 _ (0, 0) _ rfl (box3 b2 _ _ _) Tryz.underlying33 rfl (by kernel_rfl), _, rfl,
  Reads.other ⟨A2, c2, rfl, hc2, hr2⟩ b2 (noInt3 _ _ _ _ _ _ _ _) (put3_heap _ _ _ _ _), put3_below (below_then' hbel hb) (Nat.le_succ _) _ _ _⟩
end Go.Proofs.YtgamldefngehlaaGreatDoor
