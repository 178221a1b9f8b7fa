/- Parts of the walk. -/
import Derived.Test.YtgamldefngehlaaGreatDoorM02
import Derived.Test.YtgamldefngehlaaGreatDoorM31
import Derived.Test.YtgamldefngehlaaGreatDoorM39
set_option linter.unusedVariables false
set_option linter.unusedSimpArgs false
namespace Go.Proofs.YtgamldefngehlaaGreatDoor
theorem val_take_getD {B : Nat} (xs : List Nat) (i : Nat) (h : i < xs.length) : val B (xs.take (i + 1)) = val B (xs.take i) + B ^ i * xs.getD i 0 := by
 rw [val_take_succ xs i h]
 simp [List.getD_eq_getElem?_getD, List.getElem?_eq_getElem h]
theorem val_drop_getD {B : Nat} (xs : List Nat) (i : Nat) (h : i < xs.length) : val B (xs.drop i) = xs.getD i 0 + B * val B (xs.drop (i + 1)) := by
 rw [val_drop_cons xs i h]
 simp [List.getD_eq_getElem?_getD, List.getElem?_eq_getElem h]
theorem val_set_getD {B : Nat} (xs : List Nat) (p d : Nat) (h : p < xs.length) : val B (xs.set p d) + B ^ p * xs.getD p 0 = val B xs + B ^ p * d := by
 have := val_set (B := B) xs p d h
 simpa [List.getD_eq_getElem?_getD, List.getElem?_eq_getElem h] using this
theorem mul_inner_step {L : Nat} {os : List Nat} {i j x b c d c' V0 T : Nat} (hp : i + j < os.length) (h : val L os + L ^ (i + j) * c = V0 + L ^ i * x * T) (hd : d + L * c' = os.getD (i + j) 0 + x * b + c) :
  val L (os.set (i + j) d) + L ^ (i + (j + 1)) * c' = V0 + L ^ i * x * (T + L ^ j * b) := by
 have hs := val_set_getD (B := L) os (i + j) d hp
 have e1 : L ^ (i + (j + 1)) * c' = L ^ (i + j) * (L * c') := by rw [← Nat.add_assoc, Nat.pow_succ, Nat.mul_assoc]
 have e2 : L ^ i * x * (T + L ^ j * b) = L ^ i * x * T + L ^ (i + j) * (x * b) := by
  rw [Nat.mul_add, Nat.pow_add]
  congr 1
  rw [Nat.mul_assoc, Nat.mul_assoc, Nat.mul_left_comm x]
 have e3 : L ^ (i + j) * (d + L * c') = L ^ (i + j) * (os.getD (i + j) 0 + x * b + c) := by rw [hd]
 simp only [Nat.mul_add] at e3
 rw [e1, e2]
 omega
theorem spMac_lt {L o x b c : Nat} (ho : o < L) (hx : x < L) (hb : b < L) (hc : c < L) : o + x * b + c < L * L := by
 have h1 : x * b ≤ (L - 1) * (L - 1) := Nat.mul_le_mul (by omega) (by omega)
 obtain ⟨M, rfl⟩ : ∃ M, L = M + 1 := ⟨L - 1, by omega⟩
 simp only [Nat.add_sub_cancel] at h1
 have : (M + 1) * (M + 1) = M * M + 2 * M + 1 := by rw [Nat.add_mul, Nat.mul_add]; omega
 omega
theorem short_step {L : Nat} {us qs : List Nat} {i b r : Nat} (ha : i < us.length) (hq : i < qs.length) (h : val L (qs.drop (i + 1)) * b + r = val L (us.drop (i + 1))) :
  val L ((qs.set i ((r * L + us.getD i 0) / b)).drop i) * b + (r * L + us.getD i 0) % b = val L (us.drop i) := by
 rw [val_drop_getD us i ha, val_drop_getD _ i (by simpa using hq)]
 have e1 : (qs.set i ((r * L + us.getD i 0) / b)).getD i 0 = (r * L + us.getD i 0) / b := by simp [List.getD_eq_getElem?_getD, hq]
 have e2 : (qs.set i ((r * L + us.getD i 0) / b)).drop (i + 1) = qs.drop (i + 1) := by
  rw [List.drop_set_of_lt (by omega)]
 rw [e1, e2, ← h, Nat.add_mul]
 have := Nat.div_add_mod (r * L + us.getD i 0) b
 rw [Nat.mul_comm] at this
 have e3 : L * val L (qs.drop (i + 1)) * b = L * (val L (qs.drop (i + 1)) * b) := by rw [Nat.mul_assoc]
 rw [e3, Nat.mul_add, Nat.mul_comm r L] at *
 omega
theorem short_end {v b r A : Nat} (hr : r < b) (h : v * b + r = A) : v = A / b ∧ r = A % b := by
 subst h
 rw [Nat.mul_comm]
 constructor
 ·rw [Nat.mul_add_div (by omega), Nat.div_eq_of_lt hr]; rfl
 ·rw [Nat.mul_add_mod, Nat.mod_eq_of_lt hr]
end Go.Proofs.YtgamldefngehlaaGreatDoor
namespace Go.Proofs.YtgamldefngehlaaGreatDoor
open Go.RowKit Go.Proofs.YtgamldefngehlaaGreatDoorW.PrintWords
def il (xs : List Nat) : List Int := xs.map fun (n : Nat) => (n : Int)
theorem il_length (xs : List Nat) : (il xs).length = xs.length := by simp [il]
theorem il_append (xs ys : List Nat) : il (xs ++ ys) = il xs ++ il ys := by simp [il]
theorem il_get (xs : List Nat) (i : Nat) : (il xs).getD i 0 = ((xs.getD i 0 : Nat) : Int) := by
 simp only [il, List.getD_eq_getElem?_getD, List.getElem?_map]
 cases xs[i]? <;> simp
theorem rd_il (xs : List Nat) (i : Nat) : rd (il xs) (i : Int) = ((xs.getD i 0 : Nat) : Int) := by
 unfold rd
 rw [show ((i : Int)).toNat = i by omega]
 exact il_get xs i
theorem il_set (xs : List Nat) (i v : Nat) : (il xs).set i (v : Int) = il (xs.set i v) := by simp [il, List.map_set]
theorem il_replicate (n : Nat) : List.replicate n (0 : Int) = il (List.replicate n 0) := by simp [il]
end Go.Proofs.YtgamldefngehlaaGreatDoor
namespace Go.Proofs.YtgamldefngehlaaGreatDoor
open Go.RowKit Go.Proofs.YtgamldefngehlaaGreatDoorW.PrintWords Go.Proofs.YtgamldefngehlaaGreatDoor.PFnVaFieldDecimals
theorem w64 {x : Int} (h : -9223372036854775808 ≤ x) (h2 : x < 9223372036854775808) : wrap64 x = x := by unfold wrap64; omega
theorem wu64 {x : Int} (h : 0 ≤ x) (h2 : x < 18446744073709551616) : IntKind.u64.wrap x = x := by
 simp [IntKind.wrap, IntKind.bits, IntKind.signed]; omega
theorem il_take (xs : List Nat) (n : Nat) : (il xs).take n = il (xs.take n) := by simp [il, List.map_take]
theorem trim_ev : ∀ (n : Nat) (xs : List Nat), xs.length = n → n ≤ 17179869184 → Words LB xs → Ev (fun k => spec_natTrim.f k (il xs)) (il (digs LB (val LB xs)))
 | 0, xs, hl, _, _ => by
  obtain rfl := List.eq_nil_of_length_eq_zero hl
  refine ⟨1, fun k hk => ?_⟩
  obtain ⟨m, rfl⟩ : ∃ m, k = m + 1 := ⟨k - 1, by omega⟩
  simp [spec_natTrim.f, spec_natTrim.l0, il, val, digs_zero]
 | n + 1, xs, hl, hn, hw => by
  have hw1 : wrap64 (((n + 1 : Nat) : Int) - 1) = (n : Int) := by rw [w64 (by omega) (by omega)]; omega
  have hne : xs ≠ [] := fun e => by subst e; simp at hl
  by_cases hz : xs.getD n 0 = 0
  ·have e : xs = xs.take n ++ [0] := by
    refine List.ext_getElem (by simp; omega) (fun j h1 h2 => ?_)
    by_cases hj : j < n
    ·rw [List.getElem_append_left (by simp; omega)]; simp
    ·obtain rfl : j = n := by omega
     rw [List.getElem_append_right (by simp; omega)]
     simpa [List.getD_eq_getElem?_getD, List.getElem?_eq_getElem h1] using hz
   have hv : val LB xs = val LB (xs.take n) := by
    conv => lhs; rw [e]
    rw [val_snoc]; simp
   rw [hv]
   refine Ev.step (f := fun k => spec_natTrim.f k (il (xs.take n))) (fun k => ?_) (trim_ev n (xs.take n) (by simp; omega) (by omega) (hw.take n))
   simp only [spec_natTrim.f, spec_natTrim.l0, il_length, hl, hw1, rd_il, hz]
   rw [if_pos (by omega), if_pos (by omega), if_pos (by omega), if_pos (by simp), if_pos (by omega), il_take, show ((n : Int)).toNat = n by omega]
  ·have hd : digs LB (val LB xs) = xs := digs_val LB_one hw (fun hne => by
    rw [List.getLast_eq_getElem]
    intro h0
    apply hz
    simp only [hl] at h0
    rw [List.getD_eq_getElem?_getD, List.getElem?_eq_getElem (by omega)]
    simpa using h0)
   rw [hd]
   refine ⟨1, fun k hk => ?_⟩
   obtain ⟨m, rfl⟩ : ∃ m, k = m + 1 := ⟨k - 1, by omega⟩
   simp only [spec_natTrim.f, spec_natTrim.l0, il_length, hl, hw1, rd_il]
   rw [if_pos (by omega), if_pos (by omega), if_pos (by omega), if_neg (by omega)]
theorem natFrom_ev : ∀ (d n : Nat) (os : List Nat), (digs LB n).length = d → n < 18446744073709551616 → os.length + d ≤ 1000 → Ev (fun k => spec_NatFrom.l0 k (n : Int) (il os)) (il (os ++ digs LB n))
 | 0, n, os, hd, hn, hl => by
  have h0 : n = 0 := (digs_eq_nil LB_one).1 (List.eq_nil_of_length_eq_zero hd)
  subst h0
  refine ⟨1, fun k hk => ?_⟩
  obtain ⟨m, rfl⟩ : ∃ m, k = m + 1 := ⟨k - 1, by omega⟩
  simp [spec_NatFrom.l0, digs_zero]
 | d + 1, n, os, hd, hn, hl => by
  have h0 : n ≠ 0 := fun e => by subst e; rw [digs_zero] at hd; simp at hd
  have e := digs_pos LB_one h0
  have ih := natFrom_ev d (n / LB) (os ++ [n % LB]) (by rw [e] at hd; simpa using hd) (Nat.lt_of_le_of_lt (Nat.div_le_self _ _) hn) (by simp; omega)
  have e2 : os ++ digs LB n = os ++ [n % LB] ++ digs LB (n / LB) := by rw [e]; simp
  rw [e2]
  refine Ev.step (fun k => ?_) ih
  have t1 : IntKind.u64.wrap (Int.tdiv (n : Int) 1000000000) = ((n / LB : Nat) : Int) := by
   rw [Int.tdiv_eq_ediv_of_nonneg (by omega), wu64 (by omega) (by omega), LB_eq]; omega
  have t2 : Int.tmod (n : Int) 1000000000 % 4294967296 = ((n % LB : Nat) : Int) := by
   rw [Int.tmod_eq_emod_of_nonneg (by omega), LB_eq]; omega
  simp only [spec_NatFrom.l0, il_length, t1, t2]
  rw [if_pos (by omega), if_pos (by omega), il_append]
  rfl
theorem NatFrom_ev (n : Nat) (hn : n < 18446744073709551616) : Ev (fun k => spec_NatFrom.f k (n : Int)) (il (digs LB n)) := by
 have hl : (digs LB n).length ≤ 3 := (digs_length_le LB_one).2 (by rw [LB_eq]; omega)
 have := natFrom_ev _ n [] rfl hn (by simp; omega)
 simpa [spec_NatFrom.f, il] using this
theorem sum_two (c a b : Nat) (h : c + a + b < 2000000000) : (((c : Int) + (a : Int)) % 4294967296 + (b : Int)) % 4294967296 = ((c + a + b : Nat) : Int) := by omega
theorem sum_one (c a : Nat) (h : c + a < 2000000000) : ((c : Int) + (a : Int)) % 4294967296 = ((c + a : Nat) : Int) := by omega
theorem dig_mod (s : Nat) : (s : Int) % 1000000000 = ((s % LB : Nat) : Int) := by rw [LB_eq]; omega
theorem dig_div (s : Nat) : (s : Int) / 1000000000 = ((s / LB : Nat) : Int) := by rw [LB_eq]; omega
theorem add_digs (c x y s : Nat) (hs : s = c + x % LB + y % LB) (h0 : c + x + y ≠ 0) : digs LB (c + x + y) = s % LB :: digs LB (s / LB + x / LB + y / LB) := by
 rw [digs_pos LB_one h0]
 have e3 : (c + x + y) / LB = s / LB + x / LB + y / LB := by rw [hs, LB_eq]; omega
 have e4 : (c + x + y) % LB = s % LB := by rw [hs, LB_eq]; omega
 rw [e3, e4]
theorem add_l0 (k : Nat) (xs ys os : List Int) (c i : Int) (h : i < (xs.length : Int) ∨ i < (ys.length : Int) ∨ c > 0) : spec_NatAdd.l0 (k + 1) xs ys os c i = spec_NatAdd.j1 k xs ys os c i true := by
 simp only [spec_NatAdd.l0]
 by_cases h1 : i < (xs.length : Int)
 ·rw [if_pos h1]
 ·rw [if_neg h1]
  by_cases h2 : i < (ys.length : Int)
  ·rw [if_pos h2]
  ·rw [if_neg h2, decide_eq_true (by omega)]
theorem add_l0_end (k : Nat) (xs ys os : List Int) (c i : Int) (h1 : ¬ i < (xs.length : Int)) (h2 : ¬ i < (ys.length : Int)) (h3 : ¬ c > 0) : spec_NatAdd.l0 (k + 2) xs ys os c i = some os := by
 simp only [spec_NatAdd.l0, spec_NatAdd.j1]
 rw [if_neg h1, if_neg h2, decide_eq_false h3]
 rfl
theorem add_j1 (k : Nat) (xs ys os : List Int) (c i a b s : Nat) (ha : rd xs (i : Int) = (a : Int)) (hb : rd ys (i : Int) = (b : Int)) (ha0 : ¬ (i : Int) < (xs.length : Int) → a = 0) (hb0 : ¬ (i : Int) < (ys.length : Int) → b = 0) (hs : s = c + a + b) (hsl : s < 2000000000)
  (hos : os.length < 35184372088832) (hi : i < 9223372036854775807) : spec_NatAdd.j1 (k + 1) xs ys os (c : Int) (i : Int) true = spec_NatAdd.l0 k xs ys (os ++ [((s % LB : Nat) : Int)]) ((s / LB : Nat) : Int) ((i + 1 : Nat) : Int) := by
 have hw : wrap64 ((i : Int) + 1) = ((i + 1 : Nat) : Int) := by rw [w64 (by omega) (by omega)]; omega
 simp only [spec_NatAdd.j1, ha, hb, hw, if_true]
 by_cases h1 : (i : Int) < (xs.length : Int)
 ·rw [if_pos h1, if_pos (by omega)]
  by_cases h2 : (i : Int) < (ys.length : Int)
  ·rw [if_pos h2, if_pos hos, sum_two _ _ _ (by omega), ← hs, dig_mod, dig_div]
  ·obtain rfl := hb0 h2
   obtain rfl : s = c + a := hs
   rw [if_neg h2, if_pos hos, sum_one _ _ (by omega), dig_mod, dig_div]
 ·obtain rfl := ha0 h1
  rw [if_neg h1]
  by_cases h2 : (i : Int) < (ys.length : Int)
  ·obtain rfl : s = c + b := by omega
   rw [if_pos h2, if_pos (by omega), if_pos hos, sum_one _ _ (by omega), dig_mod, dig_div]
  ·obtain rfl := hb0 h2
   obtain rfl : s = c := hs
   rw [if_neg h2, if_pos hos, Int.tmod_eq_emod_of_nonneg (by omega), Int.tdiv_eq_ediv_of_nonneg (by omega), dig_mod, dig_div, show ((s / LB : Nat) : Int) % 4294967296 = ((s / LB : Nat) : Int) by rw [LB_eq]; omega]
end Go.Proofs.YtgamldefngehlaaGreatDoor
namespace Go.Proofs.YtgamldefngehlaaGreatDoor
open Go.RowKit Go.Proofs.YtgamldefngehlaaGreatDoorW.PrintWords Go.Proofs.YtgamldefngehlaaGreatDoor.PFnVaFieldDecimals
theorem len_tail {x d : Nat} {xs ys : List Nat} (e : ys = x :: xs) (h : ys.length = d + 1) : xs.length = d := by subst e; simpa using h
theorem natAdd_ev (A B : Nat) (d : Nat) : ∀ (i c : Nat) (os : List Nat), c ≤ 1 → (digs LB (c + A / LB ^ i + B / LB ^ i)).length = d → os.length = i → i + d ≤ 34359738368 →
  Ev (fun k => spec_NatAdd.l0 k (il (digs LB A)) (il (digs LB B)) (il os) (c : Int) (i : Int)) (il (os ++ digs LB (c + A / LB ^ i + B / LB ^ i))) := by
 induction d with
 | zero =>
  intro i c os hc hd hi hm
  have h0 : c + A / LB ^ i + B / LB ^ i = 0 := (digs_eq_nil LB_one).1 (List.eq_nil_of_length_eq_zero hd)
  have ha := dig_lt LB_one A i
  have hb := dig_lt LB_one B i
  rw [h0, digs_zero, List.append_nil]
  generalize A / LB ^ i = x at *
  generalize B / LB ^ i = y at *
  refine ⟨2, fun k hk => ?_⟩
  obtain ⟨m, rfl⟩ : ∃ m, k = m + 2 := ⟨k - 2, by omega⟩
  exact add_l0_end m _ _ _ _ _ (by rw [il_length]; omega) (by rw [il_length]; omega) (by omega)
 | succ d ih0 =>
  intro i c os hc hd hi hm
  have h0 : c + A / LB ^ i + B / LB ^ i ≠ 0 := fun e => by rw [e, digs_zero] at hd; simp at hd
  have e := add_digs c (A / LB ^ i) (B / LB ^ i) _ rfl h0
  have la := Nat.mod_lt (A / LB ^ i) LB_pos
  have lb := Nat.mod_lt (B / LB ^ i) LB_pos
  obtain ⟨s, hs⟩ : ∃ s, s = c + A / LB ^ i % LB + B / LB ^ i % LB := ⟨_, rfl⟩
  have hsl : s < 2000000000 := by
   generalize A / LB ^ i % LB = x at *
   generalize B / LB ^ i % LB = y at *
   rw [LB_eq] at la lb; omega
  rw [← hs, ← div_pow_succ, ← div_pow_succ] at e
  have ih := ih0 (i + 1) (s / LB) (os ++ [s % LB]) (by rw [LB_eq]; omega) (len_tail e hd) (by simp; omega) (by omega)
  have e2 : os ++ digs LB (c + A / LB ^ i + B / LB ^ i) = os ++ [s % LB] ++ digs LB (s / LB + A / LB ^ (i + 1) + B / LB ^ (i + 1)) := by rw [e]; simp
  rw [e2]
  clear e e2 hd
  have ra := rd_il (digs LB A) i
  have rb := rd_il (digs LB B) i
  rw [dig_get LB_one] at ra rb
  have hdig : il (os ++ [s % LB]) = il os ++ [((s % LB : Nat) : Int)] := by rw [il_append]; rfl
  have ha := dig_lt LB_one A i
  have hb := dig_lt LB_one B i
  rw [hdig] at ih
  have hol : (il os).length = i := by rw [il_length, hi]
  have hla := il_length (digs LB A)
  have hlb := il_length (digs LB B)
  clear ih0
  generalize A / LB ^ i = x at *
  generalize B / LB ^ i = y at *
  rw [← hla] at ha
  rw [← hlb] at hb
  generalize il (digs LB A) = X at *
  generalize il (digs LB B) = Y at *
  generalize il os = Z at *
  refine Ev.step (fun k => add_l0 k X Y Z c i ?_) (Ev.step (fun k => add_j1 k X Y Z c i (x % LB) (y % LB) s ra rb (fun h => ?_) (fun h => ?_) hs hsl (by omega) (by omega)) ih)
  ·by_cases h1 : i < X.length
   ·exact .inl (by omega)
   ·by_cases h2 : i < Y.length
    ·exact .inr (.inl (by omega))
    ·exact .inr (.inr (by omega))
  ·have : x = 0 := by omega
   rw [this]; rfl
  ·have : y = 0 := by omega
   rw [this]; rfl
theorem digs_add_len {A B M : Nat} (hA : (digs LB A).length ≤ M) (hB : (digs LB B).length ≤ M) : (digs LB (A + B)).length ≤ M + 1 := by
 refine (digs_length_le LB_one).2 ?_
 have h1 := (digs_length_le LB_one).1 hA
 have h2 := (digs_length_le LB_one).1 hB
 have h4 : LB ^ M * 2 ≤ LB ^ M * LB := Nat.mul_le_mul_left _ LB_one
 rw [Nat.pow_succ]
 omega
theorem NatAdd_ev (A B M : Nat) (hA : (digs LB A).length ≤ M) (hB : (digs LB B).length ≤ M) (hM : M ≤ 17179869184) : Ev (fun k => spec_NatAdd.f k (il (digs LB A)) (il (digs LB B))) (il (digs LB (A + B))) := by
 have hl := digs_add_len hA hB
 have := natAdd_ev A B (digs LB (A + B)).length 0 0 [] (by omega) (by simp) rfl (by omega)
 simp only [Nat.pow_zero, Nat.div_one, Nat.zero_add, List.nil_append] at this
 exact this
end Go.Proofs.YtgamldefngehlaaGreatDoor
namespace Go.Proofs.YtgamldefngehlaaGreatDoor
open Go.RowKit Go.Proofs.YtgamldefngehlaaGreatDoorW.PrintWords Go.Proofs.YtgamldefngehlaaGreatDoor.PFnVaFieldDecimals
theorem wu64n (n : Nat) (h : n < 18446744073709551616) : IntKind.u64.wrap (n : Int) = (n : Int) := wu64 (by omega) (by omega)
theorem sq_lt {n : Nat} (h : n < LB * LB) : n < 1000000000000000000 := by rw [LB_eq] at h; omega
theorem limb_lt {n : Nat} (h : n < LB) : n < 18446744073709551616 := by rw [LB_eq] at h; omega
theorem mac_u64 (o x b c : Nat) (ho : o < LB) (hx : x < LB) (hb : b < LB) (hc : c < LB) :
  IntKind.u64.wrap ((c : Int) + IntKind.u64.wrap (IntKind.u64.wrap (o : Int) + IntKind.u64.wrap (IntKind.u64.wrap (x : Int) * IntKind.u64.wrap (b : Int)))) = ((o + x * b + c : Nat) : Int) ∧ (o + x * b + c) / LB < LB := by
 have h := spMac_lt ho hx hb hc
 refine ⟨?_, Nat.div_lt_of_lt_mul h⟩
 have h3 := sq_lt h
 rw [wu64n x (limb_lt hx), wu64n b (limb_lt hb), wu64n o (limb_lt ho)]
 rw [show (x : Int) * (b : Int) = ((x * b : Nat) : Int) by simp]
 generalize x * b = p at *
 rw [wu64n p (by omega), show (o : Int) + (p : Int) = ((o + p : Nat) : Int) by omega, wu64n (o + p) (by omega), show (c : Int) + ((o + p : Nat) : Int) = ((o + p + c : Nat) : Int) by omega, wu64n (o + p + c) (by omega)]
theorem mac_facts (s : Nat) (h : s / LB < LB) : Int.tmod (s : Int) 1000000000 % 4294967296 = ((s % LB : Nat) : Int) ∧ IntKind.u64.wrap (Int.tdiv (s : Int) 1000000000) = ((s / LB : Nat) : Int) := by
 have hsl : s < LB * LB := (Nat.div_lt_iff_lt_mul LB_pos).1 h
 have h3 := sq_lt hsl
 constructor
 ·rw [Int.tmod_eq_emod_of_nonneg (by omega), dig_mod]
  have := Nat.mod_lt s LB_pos
  rw [LB_eq] at *
  omega
 ·rw [Int.tdiv_eq_ediv_of_nonneg (by omega), dig_div, wu64n _ (limb_lt h)]
theorem mul_l1 (k : Nat) (X Y Z : List Int) (i j x b c o s n la : Nat) (hb : rd X (j : Int) = (b : Int)) (ho : rd Z ((i + j : Nat) : Int) = (o : Int)) (hj : j < X.length) (hij : i + j < Z.length) (hZ : Z.length < 9223372036854775807) (hn : n = X.length)
  (hm : IntKind.u64.wrap ((c : Int) + IntKind.u64.wrap (IntKind.u64.wrap (o : Int) + IntKind.u64.wrap (IntKind.u64.wrap (x : Int) * IntKind.u64.wrap (b : Int)))) = (s : Int)) (t1 : Int.tmod (s : Int) 1000000000 % 4294967296 = ((s % LB : Nat) : Int)) (t2 : IntKind.u64.wrap (Int.tdiv (s : Int) 1000000000) = ((s / LB : Nat) : Int)) :
  spec_NatMul.l1 (k + 1) X Z (i : Int) (x : Int) (c : Int) Y (la : Int) (i : Int) X (n : Int) (j : Int) = spec_NatMul.l1 k X (Z.set (i + j) ((s % LB : Nat) : Int)) (i : Int) (x : Int) ((s / LB : Nat) : Int) Y (la : Int) (i : Int) X (n : Int) ((j + 1 : Nat) : Int) := by
 have hw : wrap64 ((i : Int) + (j : Int)) = ((i + j : Nat) : Int) := by clear hm t1 t2; rw [w64 (by omega) (by omega)]; omega
 have hw2 : wrap64 ((j : Int) + 1) = ((j + 1 : Nat) : Int) := by clear hm t1 t2; rw [w64 (by omega) (by omega)]; omega
 simp only [spec_NatMul.l1, hb, hw, ho, hw2, hm, t1, t2]
 clear hm t1 t2 hw hw2 hb ho
 have c1 : (j : Int) < (n : Int) := by omega
 have c2 : (0 : Int) ≤ (j : Int) := by omega
 have c3 : (j : Int) < (X.length : Int) := by omega
 have c4 : (0 : Int) ≤ ((i + j : Nat) : Int) := by omega
 have c5 : ((i + j : Nat) : Int) < (Z.length : Int) := by omega
 have c6 : (((i + j : Nat) : Int)).toNat = i + j := by omega
 rw [if_pos c1, if_pos c2, if_pos c3, if_pos c4, if_pos c5, c6]
theorem mul_l1_end (k : Nat) (X Y Z : List Int) (i j x c n la : Nat) (hj : j = X.length) (hn : n = X.length) (hij : i + X.length < Z.length) (hZ : Z.length < 9223372036854775807) (hc : c < LB) :
  spec_NatMul.l1 (k + 1) X Z (i : Int) (x : Int) (c : Int) Y (la : Int) (i : Int) X (n : Int) (j : Int) = spec_NatMul.l0 k X (Z.set (i + X.length) (c : Int)) Y (la : Int) ((i + 1 : Nat) : Int) := by
 have hw : wrap64 ((i : Int) + (X.length : Int)) = ((i + X.length : Nat) : Int) := by rw [w64 (by omega) (by omega)]; omega
 have hw2 : wrap64 ((i : Int) + 1) = ((i + 1 : Nat) : Int) := by rw [w64 (by omega) (by omega)]; omega
 rw [LB_eq] at hc
 simp only [spec_NatMul.l1, hw, hw2]
 rw [if_neg (by omega), if_pos (by omega), if_pos (by omega), show (((i + X.length : Nat) : Int)).toNat = i + X.length by omega, show (c : Int) % 4294967296 = (c : Int) by omega]
theorem mul_l0 (k : Nat) (X Y Z : List Int) (i x la : Nat) (hx : rd Y (i : Int) = (x : Int)) (hi : i < Y.length) (hla : la = Y.length) :
  spec_NatMul.l0 (k + 1) X Z Y (la : Int) (i : Int) = spec_NatMul.l1 k X Z (i : Int) (x : Int) ((0 : Nat) : Int) Y (la : Int) (i : Int) X (X.length : Int) ((0 : Nat) : Int) := by
 simp only [spec_NatMul.l0, hx]
 rw [if_pos (by omega), if_pos (by omega), if_pos (by omega)]
 rfl
theorem mul_l0_end (k : Nat) (X Y Z : List Int) (i la : Nat) (hla : i = la) : spec_NatMul.l0 (k + 1) X Z Y (la : Int) (i : Int) = (spec_natTrim.f k Z).bind fun t => some t := by
 simp only [spec_NatMul.l0]
 rw [if_neg (by omega)]
theorem getD_set_ne (xs : List Nat) (p q d : Nat) (h : p ≠ q) : (xs.set p d).getD q 0 = xs.getD q 0 := by
 simp [List.getD_eq_getElem?_getD, List.getElem?_set_ne h]
theorem Words.set' {B : Nat} {xs : List Nat} (h : Words B xs) (p d : Nat) (hd : d < B) : Words B (xs.set p d) := fun x hx => by
 rcases List.mem_or_eq_of_mem_set hx with h1 | rfl
 ·exact h x h1
 ·exact hd
theorem mul_inner (ys bs : List Nat) (hbs : Words LB bs) (r : List Int) (V0 i x : Nat) (hx : x < LB) (hi : i < ys.length) (hlen : ys.length + bs.length ≤ 17179869184)
  (K : ∀ os : List Nat, os.length = ys.length + bs.length → Words LB os → (∀ p, i + bs.length + 1 ≤ p → os.getD p 0 = 0) → val LB os = V0 + LB ^ i * x * val LB bs → Ev (fun k => spec_NatMul.l0 k (il bs) (il os) (il ys) (ys.length : Int) ((i + 1 : Nat) : Int)) r) (d : Nat) :
  ∀ (j c : Nat) (os : List Nat), bs.length - j = d → j ≤ bs.length → c < LB → os.length = ys.length + bs.length → Words LB os → (∀ p, i + bs.length ≤ p → os.getD p 0 = 0) → val LB os + LB ^ (i + j) * c = V0 + LB ^ i * x * val LB (bs.take j) →
  Ev (fun k => spec_NatMul.l1 k (il bs) (il os) (i : Int) (x : Int) (c : Int) (il ys) (ys.length : Int) (i : Int) (il bs) (bs.length : Int) (j : Int)) r := by
 have hlb := il_length bs
 induction d with
 | zero =>
  intro j c os hd hj hc ho hw hz hv
  obtain rfl : j = bs.length := by omega
  have hlo := il_length os
  rw [List.take_length] at hv
  refine Ev.step (fun k => mul_l1_end k (il bs) (il ys) (il os) i bs.length x c bs.length ys.length hlb.symm hlb.symm (by omega) (by omega) hc) ?_
  have he : (il os).set (i + (il bs).length) (c : Int) = il (os.set (i + bs.length) c) := by rw [hlb, il_set]
  rw [he]
  have h0 := hz (i + bs.length) (Nat.le_refl _)
  refine K _ (by simp [ho]) (hw.set' _ _ hc) (fun p hp => by rw [getD_set_ne _ _ _ _ (by omega)]; exact hz p (by omega)) ?_
  have hs := val_set_getD (B := LB) os (i + bs.length) c (by omega)
  rw [h0] at hs
  omega
 | succ d ih =>
  intro j c os hd hj hc ho hw hz hv
  have hlo := il_length os
  have rb := rd_il bs j
  have ro := rd_il os (i + j)
  have hbl : bs.getD j 0 < LB := hbs.getD LB_pos j
  have hol : os.getD (i + j) 0 < LB := hw.getD LB_pos (i + j)
  obtain ⟨s, hs⟩ : ∃ s, s = os.getD (i + j) 0 + x * bs.getD j 0 + c := ⟨_, rfl⟩
  have hq : s / LB < LB := by rw [hs]; exact (mac_u64 _ _ _ _ hol hx hbl hc).2
  have hst := mul_inner_step (L := LB) (os := os) (i := i) (j := j) (x := x) (b := bs.getD j 0) (c := c) (d := s % LB) (c' := s / LB) (by omega) hv (by rw [← hs]; have := Nat.div_add_mod s LB; omega)
  have hvt := val_take_getD (B := LB) bs j (by omega)
  rw [← hvt] at hst
  refine Ev.step (fun k => mul_l1 k (il bs) (il ys) (il os) i j x (bs.getD j 0) c (os.getD (i + j) 0) s bs.length ys.length rb ro (by omega) (by omega) (by omega) hlb.symm (by rw [hs]; exact (mac_u64 _ _ _ _ hol hx hbl hc).1) (mac_facts s hq).1 (mac_facts s hq).2) ?_
  rw [il_set]
  exact ih (j + 1) (s / LB) (os.set (i + j) (s % LB)) (by omega) (by omega) hq (by simp [ho]) (hw.set' _ _ (Nat.mod_lt _ LB_pos)) (fun p hp => by rw [getD_set_ne _ _ _ _ (by omega)]; exact hz p hp) hst
theorem mul_outer (ys bs : List Nat) (has : Words LB ys) (hbs : Words LB bs) (hlen : ys.length + bs.length ≤ 17179869184) (d : Nat) :
  ∀ (i : Nat) (os : List Nat), ys.length - i = d → i ≤ ys.length → os.length = ys.length + bs.length → Words LB os → (∀ p, i + bs.length ≤ p → os.getD p 0 = 0) → val LB os = val LB (ys.take i) * val LB bs →
  Ev (fun k => spec_NatMul.l0 k (il bs) (il os) (il ys) (ys.length : Int) (i : Int)) (il (digs LB (val LB ys * val LB bs))) := by
 have hla := il_length ys
 have hlb := il_length bs
 induction d with
 | zero =>
  intro i os hd hi ho hw hz hv
  obtain rfl : i = ys.length := by omega
  rw [List.take_length] at hv
  rw [← hv]
  exact Ev.step (fun k => mul_l0_end k (il bs) (il ys) (il os) _ _ rfl) (Ev.bind (trim_ev os.length os rfl (by omega) hw) (Ev.now _))
 | succ d ih =>
  intro i os hd hi ho hw hz hv
  have rx := rd_il ys i
  refine Ev.step (fun k => mul_l0 k (il bs) (il ys) (il os) i (ys.getD i 0) ys.length rx (by omega) hla.symm) ?_
  rw [hlb]
  have hxl : ys.getD i 0 < LB := has.getD LB_pos i
  refine mul_inner ys bs hbs _ (val LB os) i (ys.getD i 0) hxl (by omega) hlen (fun os' h1 h2 h3 h4 => ?_) bs.length 0 0 os (by omega) (by omega) LB_pos ho hw hz (by simp [val])
  refine ih (i + 1) os' (by omega) (by omega) h1 h2 (fun p hp => h3 p (by omega)) ?_
  rw [h4, hv, val_take_getD ys i (by omega), Nat.add_mul]
theorem NatMul_ev (A B M : Nat) (hA : (digs LB A).length ≤ M) (hB : (digs LB B).length ≤ M) (hM : M ≤ 8589934592) : Ev (fun k => spec_NatMul.f k (il (digs LB A)) (il (digs LB B))) (il (digs LB (A * B))) := by
 have h := mul_outer (digs LB A) (digs LB B) (words_digs LB_one A) (words_digs LB_one B) (by omega) (digs LB A).length 0 (List.replicate ((digs LB A).length + (digs LB B).length) 0) (by omega) (by omega) (by simp) (Words.replicate LB_pos _) (fun p hp => by simp [List.getD_eq_getElem?_getD, List.getElem?_replicate]; split <;> rfl) (by simp [val, val_replicate])
 rw [val_digs LB_one, val_digs LB_one] at h
 have hla := il_length (digs LB A)
 have hlb := il_length (digs LB B)
 rw [← hla] at h hA
 rw [← hlb] at h hB
 rw [← il_replicate] at h
 generalize il (digs LB A) = X at *
 generalize il (digs LB B) = Y at *
 refine Ev.congr (fun k => ?_) h
 have hw : wrap64 ((X.length : Int) + (Y.length : Int)) = ((X.length + Y.length : Nat) : Int) := by rw [w64 (by omega) (by omega)]; omega
 simp only [spec_NatMul.f, hw]
 rw [if_pos (by omega), if_pos (by omega), show (((X.length + Y.length : Nat) : Int)).toNat = X.length + Y.length by omega]
 rfl
end Go.Proofs.YtgamldefngehlaaGreatDoor
namespace Go.Proofs.YtgamldefngehlaaGreatDoor
open Go.RowKit Go.Proofs.YtgamldefngehlaaGreatDoorW.PrintWords Go.Proofs.YtgamldefngehlaaGreatDoor.PFnVaFieldDecimals
theorem wsucc {i : Nat} (h : i < 9223372036854775806) : wrap64 ((i : Int) + 1) = ((i + 1 : Nat) : Int) := by rw [w64 (by omega) (by omega)]; omega
theorem wpred {i : Nat} (h : i < 9223372036854775806) : wrap64 ((i : Int) - 1) = (i : Int) - 1 := w64 (by omega) (by omega)
theorem short_l0 (k : Nat) (X Q : List Int) (i x r : Nat) (hx : rd X (i : Int) = (x : Int)) (hi : i < X.length) (hq : i < Q.length) (hi2 : i < 9223372036854775806) (hr : r < 256) (hxl : x < 1000000000) :
  spec_natShort.l0 (k + 1) X 256 Q (r : Int) (i : Int) = spec_natShort.l0 k X 256 (Q.set i (((r * 1000000000 + x) / 256 : Nat) : Int)) (((r * 1000000000 + x) % 256 : Nat) : Int) ((i : Int) - 1) := by
 have hw := wpred hi2
 have e0 : IntKind.u64.wrap (256 : Int) = 256 := wu64 (by omega) (by omega)
 have e1 : IntKind.u64.wrap ((r : Int) * 1000000000) = ((r * 1000000000 : Nat) : Int) := by rw [wu64 (by omega) (by omega)]; omega
 have e2 : IntKind.u64.wrap (x : Int) = (x : Int) := wu64 (by omega) (by omega)
 have e3 : IntKind.u64.wrap (((r * 1000000000 : Nat) : Int) + (x : Int)) = ((r * 1000000000 + x : Nat) : Int) := by rw [wu64 (by omega) (by omega)]; omega
 obtain ⟨s, hs⟩ : ∃ s, s = r * 1000000000 + x := ⟨_, rfl⟩
 have hsl : s < 256000000000 := by omega
 rw [← hs] at e3 ⊢
 have e4 : IntKind.u64.wrap (Int.tdiv (s : Int) 256) = ((s / 256 : Nat) : Int) := by rw [Int.tdiv_eq_ediv_of_nonneg (by omega), wu64 (by omega) (by omega)]; omega
 have e5 : ((s / 256 : Nat) : Int) % 4294967296 = ((s / 256 : Nat) : Int) := by omega
 have e6 : Int.tmod (s : Int) 256 = ((s % 256 : Nat) : Int) := by rw [Int.tmod_eq_emod_of_nonneg (by omega)]; omega
 simp only [spec_natShort.l0, hx, hw, e0, e1, e2, e3, e4, e5, e6]
 clear hw hx e0 e1 e2 e3 e4 e5 e6 hs
 have c1 : (i : Int) ≥ 0 := by omega
 have c2 : (0 : Int) ≤ (i : Int) := by omega
 have c3 : (i : Int) < (X.length : Int) := by omega
 have c4 : ¬ ((256 : Int) = 0) := by omega
 have c5 : (i : Int) < (Q.length : Int) := by omega
 have c6 : ((i : Int)).toNat = i := by omega
 rw [if_pos c1, if_pos c2, if_pos c3, if_neg c4, if_pos c5, c6]
theorem short_l0_end (k : Nat) (X Q : List Int) (r : Nat) (hr : r < 256) : spec_natShort.l0 (k + 1) X 256 Q (r : Int) (-1) = (spec_natTrim.f k Q).bind fun t => some (t, (r : Int)) := by
 have e : (r : Int) % 4294967296 = (r : Int) := by omega
 simp only [spec_natShort.l0, e]
 rw [if_neg (by omega)]
theorem natShort_ev (xs : List Nat) (hx : Words LB xs) (hlen : xs.length ≤ 17179869184) : ∀ (n r : Nat) (qs : List Nat), n ≤ xs.length → qs.length = xs.length → Words LB qs → r < 256 → val LB (qs.drop n) * 256 + r = val LB (xs.drop n) →
  Ev (fun k => spec_natShort.l0 k (il xs) 256 (il qs) (r : Int) ((n : Int) - 1)) (il (digs LB (val LB xs / 256)), ((val LB xs % 256 : Nat) : Int)) := by
 have hlx := il_length xs
 intro n
 induction n with
 | zero =>
  intro r qs hn hq hw hr hv
  simp only [List.drop_zero] at hv
  obtain ⟨h1, h2⟩ := short_end hr hv
  rw [← h1, ← h2]
  exact Ev.step (fun k => short_l0_end k (il xs) (il qs) r hr) (Ev.bind (trim_ev qs.length qs rfl (by omega) hw) (Ev.now _))
 | succ n ih =>
  intro r qs hn hq hw hr hv
  have hlq := il_length qs
  have rx := rd_il xs n
  have bx : xs.getD n 0 < LB := hx.getD LB_pos n
  have hst : val LB ((qs.set n ((r * LB + xs.getD n 0) / 256)).drop n) * 256 + (r * LB + xs.getD n 0) % 256 = val LB (xs.drop n) := short_step (by omega) (by omega) hv
  have e : ((n + 1 : Nat) : Int) - 1 = (n : Int) := by omega
  rw [e]
  have bx' := bx
  rw [LB_eq] at bx' hst
  refine Ev.step (fun k => short_l0 k (il xs) (il qs) n (xs.getD n 0) r rx (by omega) (by omega) (by omega) hr bx') ?_
  rw [il_set]
  refine ih _ _ (by omega) (by simp [hq]) (hw.set' _ _ ?_) (Nat.mod_lt _ (by omega)) ?_
  ·rw [LB_eq]; omega
  ·rw [LB_eq]; exact hst
theorem short_f (k : Nat) (X : List Int) (h : X.length ≤ 17179869184) : spec_natShort.f k X 256 = spec_natShort.l0 k X 256 (List.replicate X.length 0) ((0 : Nat) : Int) ((X.length : Int) - 1) := by
 have hw := wpred (i := X.length) (by omega)
 simp only [spec_natShort.f, hw]
 have c1 : (0 : Int) ≤ (X.length : Int) := by omega
 have c3 : ((X.length : Int)).toNat = X.length := by omega
 have c2 : X.length ≤ 70368744177664 := by omega
 rw [if_pos c1, c3, if_pos c2]
 rfl
theorem NatShort_ev (A : Nat) (hA : (digs LB A).length ≤ 17179869184) : Ev (fun k => spec_natShort.f k (il (digs LB A)) 256) (il (digs LB (A / 256)), ((A % 256 : Nat) : Int)) := by
 have h := natShort_ev (digs LB A) (words_digs LB_one A) hA (digs LB A).length 0 (List.replicate (digs LB A).length 0) (Nat.le_refl _) (by simp) (Words.replicate LB_pos _) (by omega) (by simp [val])
 rw [val_digs LB_one, ← il_replicate] at h
 have hl := il_length (digs LB A)
 rw [← hl] at h hA
 exact Ev.congr (fun k => short_f k _ hA) h
def cmpN (a b : Nat) : Int := if a < b then -1 else if a = b then 0 else 1
theorem cmp_l0_eq (k : Nat) (X Y : List Int) (i x : Nat) (hx : rd X (i : Int) = (x : Int)) (hy : rd Y (i : Int) = (x : Int)) (h1 : i < X.length) (h2 : i < Y.length) (hi2 : i < 9223372036854775806) : spec_NatCmp.l0 (k + 1) X Y (i : Int) = spec_NatCmp.l0 k X Y ((i : Int) - 1) := by
 have hw := wpred hi2
 simp only [spec_NatCmp.l0, hx, hy, hw]
 have c1 : (i : Int) ≥ 0 := by omega
 have c2 : (0 : Int) ≤ (i : Int) := by omega
 have c3 : (i : Int) < (X.length : Int) := by omega
 have c4 : (i : Int) < (Y.length : Int) := by omega
 rw [if_pos c1, if_pos c2, if_pos c3, if_pos c4, if_true]
theorem cmp_l0_ne (k : Nat) (X Y : List Int) (i x y : Nat) (hx : rd X (i : Int) = (x : Int)) (hy : rd Y (i : Int) = (y : Int)) (h1 : i < X.length) (h2 : i < Y.length) (hne : x ≠ y) : spec_NatCmp.l0 (k + 1) X Y (i : Int) = some (if x < y then -1 else 1) := by
 simp only [spec_NatCmp.l0, hx, hy]
 have c1 : (i : Int) ≥ 0 := by omega
 have c2 : (0 : Int) ≤ (i : Int) := by omega
 have c3 : (i : Int) < (X.length : Int) := by omega
 have c4 : (i : Int) < (Y.length : Int) := by omega
 have c5 : ¬ (x : Int) = (y : Int) := by omega
 rw [if_pos c1, if_pos c2, if_pos c3, if_pos c4, if_neg c5]
 by_cases h : x < y
 ·have c6 : (x : Int) < (y : Int) := by omega
  rw [if_pos c6, if_pos h]
 ·have c6 : ¬ (x : Int) < (y : Int) := by omega
  rw [if_neg c6, if_neg h]
theorem natCmp_ev (xs ys : List Nat) (hx : Words LB xs) (hy : Words LB ys) (hl : xs.length = ys.length) (hlen : xs.length ≤ 17179869184) : ∀ n, n ≤ xs.length → xs.drop n = ys.drop n → Ev (fun k => spec_NatCmp.l0 k (il xs) (il ys) ((n : Int) - 1)) (cmpN (val LB xs) (val LB ys)) := by
 have hlx := il_length xs
 have hly := il_length ys
 intro n
 induction n with
 | zero =>
  intro hn hd
  simp only [List.drop_zero] at hd
  subst hd
  refine ⟨1, fun k hk => ?_⟩
  obtain ⟨m, rfl⟩ : ∃ m, k = m + 1 := ⟨k - 1, by omega⟩
  simp [spec_NatCmp.l0, cmpN]
 | succ n ih =>
  intro hn hd
  have e : ((n + 1 : Nat) : Int) - 1 = (n : Int) := by omega
  rw [e]
  have rx := rd_il xs n
  have ry := rd_il ys n
  have gx : xs.getD n 0 = xs[n]'(by omega) := by simp [List.getD_eq_getElem?_getD, List.getElem?_eq_getElem (show n < xs.length by omega)]
  have gy : ys.getD n 0 = ys[n]'(by omega) := by simp [List.getD_eq_getElem?_getD, List.getElem?_eq_getElem (show n < ys.length by omega)]
  by_cases h : xs.getD n 0 = ys.getD n 0
  ·rw [← h] at ry
   refine Ev.step (fun k => cmp_l0_eq k (il xs) (il ys) n _ rx ry (by omega) (by omega) (by omega)) (ih (by omega) ?_)
   have e1 : xs.drop n = xs[n]'(by omega) :: xs.drop (n + 1) := List.drop_eq_getElem_cons (by omega)
   have e2 : ys.drop n = ys[n]'(by omega) :: ys.drop (n + 1) := List.drop_eq_getElem_cons (by omega)
   rw [e1, e2, hd, ← gx, ← gy, h]
  ·have hc : cmpN (val LB xs) (val LB ys) = if xs.getD n 0 < ys.getD n 0 then -1 else 1 := by
    unfold cmpN
    rcases Nat.lt_or_gt_of_ne h with h1 | h1
    ·have := val_lt_of hx n (by omega) (by omega) hd (by rw [← gx, ← gy]; exact h1)
     rw [if_pos this, if_pos h1]
    ·have := val_lt_of hy n (by omega) (by omega) hd.symm (by rw [← gx, ← gy]; exact h1)
     have h2 : ¬ xs.getD n 0 < ys.getD n 0 := by omega
     have h3 : ¬ val LB xs < val LB ys := by omega
     have h4 : ¬ val LB xs = val LB ys := by omega
     rw [if_neg h3, if_neg h4, if_neg h2]
   rw [hc]
   exact Ev.step (fun k => cmp_l0_ne k (il xs) (il ys) n _ _ rx ry (by omega) (by omega) h) (Ev.now _)
theorem cmp_f_eq (k : Nat) (X Y : List Int) (h : X.length = Y.length) (hl : X.length ≤ 17179869184) : spec_NatCmp.f k X Y = spec_NatCmp.l0 k X Y ((X.length : Int) - 1) := by
 have hw := wpred (i := X.length) (by omega)
 simp only [spec_NatCmp.f, hw]
 have c1 : (X.length : Int) = (Y.length : Int) := by omega
 rw [if_pos c1]
theorem cmp_f_ne (k : Nat) (X Y : List Int) (h : X.length ≠ Y.length) : spec_NatCmp.f k X Y = some (if X.length < Y.length then -1 else 1) := by
 simp only [spec_NatCmp.f]
 have c1 : ¬ (X.length : Int) = (Y.length : Int) := by omega
 rw [if_neg c1]
 by_cases h2 : X.length < Y.length
 ·have c2 : (X.length : Int) < (Y.length : Int) := by omega
  rw [if_pos c2, if_pos h2]
 ·have c2 : ¬ (X.length : Int) < (Y.length : Int) := by omega
  rw [if_neg c2, if_neg h2]
theorem NatCmp_ev (A B : Nat) (hA : (digs LB A).length ≤ 17179869184) : Ev (fun k => spec_NatCmp.f k (il (digs LB A)) (il (digs LB B))) (cmpN A B) := by
 have hla := il_length (digs LB A)
 have hlb := il_length (digs LB B)
 by_cases hl : (digs LB A).length = (digs LB B).length
 ·have h := natCmp_ev (digs LB A) (digs LB B) (words_digs LB_one A) (words_digs LB_one B) hl hA (digs LB A).length (Nat.le_refl _) (by rw [List.drop_length, hl, List.drop_length])
  rw [val_digs LB_one, val_digs LB_one] at h
  rw [← hla] at h
  exact Ev.congr (fun k => cmp_f_eq k _ _ (by omega) (by omega)) h
 ·have hc : cmpN A B = if (digs LB A).length < (digs LB B).length then -1 else 1 := by
   unfold cmpN
   by_cases h2 : (digs LB A).length < (digs LB B).length
   ·have := lt_of_digs_length LB_one h2
    rw [if_pos this, if_pos h2]
   ·have := lt_of_digs_length LB_one (show (digs LB B).length < (digs LB A).length by omega)
    rw [if_neg (by omega), if_neg (by omega), if_neg h2]
  rw [hc, ← hla, ← hlb]
  exact Ev.congr (fun k => cmp_f_ne k _ _ (by omega)) (Ev.now _)
end Go.Proofs.YtgamldefngehlaaGreatDoor
