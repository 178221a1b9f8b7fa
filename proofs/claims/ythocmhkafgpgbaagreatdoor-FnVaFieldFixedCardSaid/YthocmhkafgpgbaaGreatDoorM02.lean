/- Parts of the walk. -/
import Derived.Test.YthocmhkafgpgbaaGreatDoorM25
import Derived.Test.YthocmhkafgpgbaaGreatDoorM34
set_option linter.unusedVariables false
set_option linter.unusedSimpArgs false
namespace Go.Proofs.YthocmhkafgpgbaaGreatDoor
def WB : Nat := 18446744073709551616
theorem WB_eq : WB = 18446744073709551616 := rfl
theorem WB_one : 1 < WB := by rw [WB_eq]; omega
theorem WB_pos : 0 < WB := by rw [WB_eq]; omega
def LB : Nat := 1000000000
theorem LB_eq : LB = 1000000000 := rfl
theorem LB_one : 1 < LB := by rw [LB_eq]; omega
theorem LB_pos : 0 < LB := by rw [LB_eq]; omega
def val (B : Nat) : List Nat → Nat
 | [] => 0
 | x :: xs => x + B * val B xs
variable {B : Nat}
theorem val_nil : val B [] = 0 := rfl
theorem val_cons (x : Nat) (xs : List Nat) : val B (x :: xs) = x + B * val B xs := rfl
theorem val_one (x : Nat) : val B [x] = x := by simp [val]
theorem val_append (xs ys : List Nat) : val B (xs ++ ys) = val B xs + B ^ xs.length * val B ys := by
 induction xs with
 | nil => simp [val]
 | cons x xs ih =>
  rw [List.cons_append, val_cons, val_cons, ih, List.length_cons, Nat.pow_succ, Nat.mul_add, Nat.add_assoc]
  congr 2
  rw [← Nat.mul_assoc, Nat.mul_comm B (B ^ _)]
theorem val_snoc (xs : List Nat) (x : Nat) : val B (xs ++ [x]) = val B xs + B ^ xs.length * x := by
 rw [val_append, val_one]
def Words (B : Nat) (xs : List Nat) : Prop := ∀ x ∈ xs, x < B
theorem Words.nil : Words B [] := fun _ h => by simp at h
theorem Words.cons {x : Nat} {xs : List Nat} (h : x < B) (hs : Words B xs) : Words B (x :: xs) := fun y hy => by
 rcases List.mem_cons.1 hy with rfl | hy
 ·exact h
 ·exact hs y hy
theorem Words.one {x : Nat} (h : x < B) : Words B [x] := .cons h .nil
theorem Words.append {xs ys : List Nat} (h : Words B xs) (h' : Words B ys) : Words B (xs ++ ys) := fun y hy => (List.mem_append.1 hy).elim (h y) (h' y)
theorem Words.snoc {x : Nat} {xs : List Nat} (hs : Words B xs) (h : x < B) : Words B (xs ++ [x]) := hs.append (.one h)
theorem Words.take {xs : List Nat} (h : Words B xs) (k : Nat) : Words B (xs.take k) := fun y hy => h y (List.mem_of_mem_take hy)
theorem Words.drop {xs : List Nat} (h : Words B xs) (k : Nat) : Words B (xs.drop k) := fun y hy => h y (List.mem_of_mem_drop hy)
theorem Words.get {xs : List Nat} (h : Words B xs) (i : Nat) (hi : i < xs.length) : xs[i] < B := h _ (List.getElem_mem hi)
theorem Words.getD {xs : List Nat} (h : Words B xs) (hB : 0 < B) (i : Nat) : xs.getD i 0 < B := by
 rw [List.getD_eq_getElem?_getD]
 by_cases hi : i < xs.length
 ·rw [List.getElem?_eq_getElem hi]; exact h.get i hi
 ·rw [List.getElem?_eq_none (by omega)]; exact hB
theorem Words.replicate (hB : 0 < B) (n : Nat) : Words B (List.replicate n 0) := fun x hx => by rw [(List.mem_replicate.1 hx).2]; exact hB
theorem val_lt {xs : List Nat} (h : Words B xs) : val B xs < B ^ xs.length := by
 induction xs with
 | nil => simp [val]
 | cons x xs ih =>
  have h1 : x < B := h x (by simp)
  have h2 := ih (fun y hy => h y (by simp [hy]))
  rw [val_cons, List.length_cons, Nat.pow_succ, Nat.mul_comm (B ^ _)]
  have h3 : B * (val B xs + 1) ≤ B * B ^ xs.length := Nat.mul_le_mul_left _ h2
  rw [Nat.mul_add] at h3
  omega
theorem val_replicate (n : Nat) : val B (List.replicate n 0) = 0 := by
 induction n with
 | zero => rfl
 | succ n ih => rw [List.replicate_succ, val_cons, ih]; simp
theorem val_take_succ (xs : List Nat) (i : Nat) (h : i < xs.length) : val B (xs.take (i + 1)) = val B (xs.take i) + B ^ i * xs[i] := by
 rw [List.take_succ_eq_append_getElem h, val_snoc, List.length_take, Nat.min_eq_left (by omega)]
theorem val_split (xs : List Nat) (i : Nat) (h : i ≤ xs.length) : val B xs = val B (xs.take i) + B ^ i * val B (xs.drop i) := by
 conv => lhs; rw [← List.take_append_drop i xs]
 rw [val_append, List.length_take, Nat.min_eq_left h]
theorem val_drop_cons (xs : List Nat) (i : Nat) (h : i < xs.length) : val B (xs.drop i) = xs[i] + B * val B (xs.drop (i + 1)) := by
 rw [List.drop_eq_getElem_cons h, val_cons]
theorem val_zeros (xs : List Nat) (n : Nat) : val B (xs ++ List.replicate n 0) = val B xs := by
 rw [val_append, val_replicate]; simp
def digs (B n : Nat) : List Nat := if n = 0 ∨ B < 2 then [] else n % B :: digs B (n / B)
termination_by n
decreasing_by exact Nat.div_lt_self (by omega) (by omega)
theorem digs_zero : digs B 0 = [] := by unfold digs; simp
theorem digs_pos (hB : 1 < B) {n : Nat} (h : n ≠ 0) : digs B n = n % B :: digs B (n / B) := by rw [digs]; rw [if_neg (by omega)]
theorem val_digs (hB : 1 < B) (n : Nat) : val B (digs B n) = n := by
 induction n using Nat.strongRecOn with
 | ind n ih =>
  by_cases h : n = 0
  ·subst h; rw [digs_zero]; rfl
  ·rw [digs_pos hB h, val_cons, ih _ (Nat.div_lt_self (by omega) (by omega))]
   exact Nat.mod_add_div n B
theorem words_digs (hB : 1 < B) (n : Nat) : Words B (digs B n) := by
 induction n using Nat.strongRecOn with
 | ind n ih =>
  by_cases h : n = 0
  ·subst h; rw [digs_zero]; exact .nil
  ·rw [digs_pos hB h]
   exact .cons (Nat.mod_lt _ (by omega)) (ih _ (Nat.div_lt_self (by omega) (by omega)))
theorem digs_eq_nil (hB : 1 < B) {n : Nat} : digs B n = [] ↔ n = 0 := by
 constructor
 ·intro h; have := val_digs hB n; rw [h] at this; exact this.symm
 ·rintro rfl; exact digs_zero
theorem digs_small (hB : 1 < B) {n : Nat} (h : n ≠ 0) (hn : n < B) : digs B n = [n] := by
 rw [digs_pos hB h, Nat.mod_eq_of_lt hn, Nat.div_eq_of_lt hn, digs_zero]
theorem digs_last (hB : 1 < B) (n : Nat) : ∀ h : digs B n ≠ [], (digs B n).getLast h ≠ 0 := by
 induction n using Nat.strongRecOn with
 | ind n ih =>
  intro h
  have hn : n ≠ 0 := fun e => h ((digs_eq_nil hB).2 e)
  have e := digs_pos hB hn
  by_cases hd : digs B (n / B) = []
  ·have h1 : n < B := by
    have := (digs_eq_nil hB).1 hd
    exact (Nat.div_eq_zero_iff.1 this).resolve_left (by omega)
   simp only [digs_small hB hn h1, List.getLast_singleton]
   exact hn
  ·have := ih _ (Nat.div_lt_self (by omega) (by omega)) hd
   simp only [e]
   rw [List.getLast_cons hd]
   exact this
theorem digs_val (hB : 1 < B) {xs : List Nat} (h : Words B xs) (hl : ∀ hne : xs ≠ [], xs.getLast hne ≠ 0) : digs B (val B xs) = xs := by
 induction xs with
 | nil => exact digs_zero
 | cons x xs ih =>
  have hx : x < B := h x (by simp)
  have hxs : Words B xs := fun y hy => h y (by simp [hy])
  have hxl : ∀ hne : xs ≠ [], xs.getLast hne ≠ 0 := fun hne => by have := hl (by simp); rwa [List.getLast_cons hne] at this
  have e := ih hxs hxl
  have hv : val B (x :: xs) ≠ 0 := by
   rw [val_cons]
   intro h0
   have hx0 : x = 0 := by omega
   have hv0 : val B xs = 0 := by
    rcases Nat.mul_eq_zero.1 (show B * val B xs = 0 by omega) with h | h
    ·omega
    ·exact h
   rw [hv0, digs_zero] at e
   subst e
   exact hl (by simp) (by simpa using hx0)
  rw [digs_pos hB hv, val_cons, Nat.add_mul_mod_self_left, Nat.mod_eq_of_lt hx, Nat.add_mul_div_left _ _ (by omega), Nat.div_eq_of_lt hx, Nat.zero_add, e]
theorem digs_length_le (hB : 1 < B) {n k : Nat} : (digs B n).length ≤ k ↔ n < B ^ k := by
 constructor
 ·intro h
  have h1 := val_lt (words_digs hB n)
  rw [val_digs hB] at h1
  exact Nat.lt_of_lt_of_le h1 (Nat.pow_le_pow_right (by omega) h)
 ·induction k generalizing n with
  | zero =>
   intro h
   have : n = 0 := by simpa using h
   subst this; rw [digs_zero]; exact Nat.le_refl _
  | succ k ih =>
   intro h
   by_cases h0 : n = 0
   ·subst h0; rw [digs_zero]; exact Nat.zero_le _
   ·rw [digs_pos hB h0, List.length_cons]
    have : n / B < B ^ k := by rw [Nat.div_lt_iff_lt_mul (by omega), ← Nat.pow_succ]; exact h
    have := ih this
    omega
theorem digs_length_mono (hB : 1 < B) {a b : Nat} (h : a ≤ b) : (digs B a).length ≤ (digs B b).length :=
 (digs_length_le hB).2 (Nat.lt_of_le_of_lt h ((digs_length_le hB).1 (Nat.le_refl _)))
theorem lt_of_digs_length (hB : 1 < B) {a b : Nat} (h : (digs B a).length < (digs B b).length) : a < b := by
 rcases Nat.lt_or_ge a b with h' | h'
 ·exact h'
 ·have := digs_length_mono hB h'; omega
theorem digs_len_pos (hB : 1 < B) {n : Nat} : 0 < (digs B n).length ↔ n ≠ 0 := by
 rw [List.length_pos_iff]; exact not_congr (digs_eq_nil hB)
theorem val_lt_of {xs ys : List Nat} (hx : Words B xs) (i : Nat) (h1 : i < xs.length) (h2 : i < ys.length) (hd : xs.drop (i + 1) = ys.drop (i + 1)) (hlt : xs[i] < ys[i]) : val B xs < val B ys := by
 rw [val_split xs i (by omega), val_split ys i (by omega), val_drop_cons xs i h1, val_drop_cons ys i h2, hd]
 have a := val_lt (hx.take i)
 rw [List.length_take, Nat.min_eq_left (by omega)] at a
 have b := Nat.mul_le_mul_left (B ^ i) (show xs[i] + B * val B (ys.drop (i + 1)) + 1 ≤ ys[i] + B * val B (ys.drop (i + 1)) by omega)
 rw [Nat.mul_add _ _ 1] at b
 omega
theorem val_step_add {zs : List Nat} {i : Nat} (hi : zs.length = i) {d c c' x y X Y : Nat} (h : val B zs + B ^ i * c = X + Y) (hd : d + B * c' = x + y + c) :
  val B (zs ++ [d]) + B ^ (i + 1) * c' = (X + B ^ i * x) + (Y + B ^ i * y) := by
 subst hi
 have e : B ^ zs.length * (d + B * c') = B ^ zs.length * (x + y + c) := by rw [hd]
 rw [Nat.mul_add, Nat.mul_add, Nat.mul_add] at e
 rw [val_snoc, Nat.pow_succ, Nat.mul_assoc]
 omega
theorem val_step_sub {zs : List Nat} {i : Nat} (hi : zs.length = i) {d c c' x y X Y : Nat} (h : val B zs + Y = X + B ^ i * c) (hd : d + y + c = x + B * c') :
  val B (zs ++ [d]) + (Y + B ^ i * y) = (X + B ^ i * x) + B ^ (i + 1) * c' := by
 subst hi
 have e : B ^ zs.length * (d + y + c) = B ^ zs.length * (x + B * c') := by rw [hd]
 rw [Nat.mul_add, Nat.mul_add, Nat.mul_add] at e
 rw [val_snoc, Nat.pow_succ, Nat.mul_assoc]
 omega
theorem val_step_mul {zs : List Nat} {i : Nat} (hi : zs.length = i) {d c c' x y X r : Nat} (h : val B zs + B ^ i * c = X * y + r) (hd : d + B * c' = x * y + c) :
  val B (zs ++ [d]) + B ^ (i + 1) * c' = (X + B ^ i * x) * y + r := by
 subst hi
 have e : B ^ zs.length * (d + B * c') = B ^ zs.length * (x * y + c) := by rw [hd]
 rw [Nat.mul_add, Nat.mul_add] at e
 rw [val_snoc, Nat.pow_succ, Nat.mul_assoc, Nat.add_mul, Nat.mul_assoc (B ^ _) x y]
 omega
theorem val_step_mac {zs : List Nat} {i : Nat} (hi : zs.length = i) {d c c' x y m X Y r : Nat} (h : val B zs + B ^ i * c = X + Y * m + r) (hd : d + B * c' = x + y * m + c) :
  val B (zs ++ [d]) + B ^ (i + 1) * c' = (X + B ^ i * x) + (Y + B ^ i * y) * m + r := by
 subst hi
 have e : B ^ zs.length * (d + B * c') = B ^ zs.length * (x + y * m + c) := by rw [hd]
 rw [Nat.mul_add, Nat.mul_add, Nat.mul_add] at e
 rw [val_snoc, Nat.pow_succ, Nat.mul_assoc, Nat.add_mul, Nat.mul_assoc (B ^ _) y m]
 omega
end Go.Proofs.YthocmhkafgpgbaaGreatDoor
namespace Go.Proofs.YthocmhkafgpgbaaGreatDoor
variable {B : Nat}
theorem set_form (xs : List Nat) (p d : Nat) (h : p < xs.length) : xs.set p d = xs.take p ++ d :: xs.drop (p + 1) := by
 rw [List.set_eq_take_append_cons_drop, if_pos h]
theorem val_set (xs : List Nat) (p d : Nat) (h : p < xs.length) : val B (xs.set p d) + B ^ p * xs[p] = val B xs + B ^ p * d := by
 rw [val_split xs p (by omega), set_form xs p d h, val_append, val_drop_cons xs p h, val_cons, List.length_take, Nat.min_eq_left (by omega)]
 simp only [Nat.mul_add]
 omega
def over (xs : List Nat) (o : Nat) (ys : List Nat) : List Nat := xs.take o ++ (ys ++ xs.drop (o + ys.length))
theorem over_length (xs : List Nat) (o : Nat) (ys : List Nat) (h : o + ys.length ≤ xs.length) : (over xs o ys).length = xs.length := by
 simp [over]; omega
theorem over_words {xs : List Nat} {o : Nat} {ys : List Nat} (hx : Words B xs) (hy : Words B ys) : Words B (over xs o ys) := (hx.take o).append (hy.append (hx.drop _))
theorem over_get_lt (xs : List Nat) (o : Nat) (ys : List Nat) (i : Nat) (h : i < o) (h' : o ≤ xs.length) : (over xs o ys)[i]? = xs[i]? := by
 unfold over
 rw [List.getElem?_append_left (by simp; omega), List.getElem?_take, if_pos h]
theorem over_get_in (xs : List Nat) (o : Nat) (ys : List Nat) (i : Nat) (h : o ≤ i) (h' : i < o + ys.length) (hl : o ≤ xs.length) : (over xs o ys)[i]? = ys[i - o]? := by
 unfold over
 rw [List.getElem?_append_right (by simp; omega), List.getElem?_append_left (by simp; omega)]
 simp [Nat.min_eq_left hl]
theorem over_get_ge (xs : List Nat) (o : Nat) (ys : List Nat) (i : Nat) (h : o + ys.length ≤ i) (h' : o + ys.length ≤ xs.length) : (over xs o ys)[i]? = xs[i]? := by
 unfold over
 rw [List.getElem?_append_right (by simp; omega), List.getElem?_append_right (by simp; omega), List.getElem?_drop]
 congr 1
 simp
 omega
theorem over_snoc (xs : List Nat) (o : Nat) (ys : List Nat) (d : Nat) (h : o + ys.length < xs.length) : (over xs o ys).set (o + ys.length) d = over xs o (ys ++ [d]) := by
 unfold over
 rw [List.set_append_right _ _ (by simp; omega), List.set_append_right _ _ (by simp; omega)]
 congr 1
 rw [List.append_assoc]
 congr 1
 have e : o + ys.length - (xs.take o).length - ys.length = 0 := by simp; omega
 rw [e, List.drop_eq_getElem_cons h]
 simp [Nat.add_assoc]
theorem over_nil (xs : List Nat) (o : Nat) : over xs o [] = xs := by simp [over]
theorem over_over (C : List Nat) (o : Nat) (ys zs : List Nat) (h : o + ys.length + zs.length ≤ C.length) : over (over C o ys) (o + ys.length) zs = over C o (ys ++ zs) := by
 refine List.ext_getElem? fun i => ?_
 have hl : (over C o ys).length = C.length := over_length _ _ _ (by omega)
 by_cases h1 : i < o
 ·rw [over_get_lt _ _ _ _ (by omega) (by omega), over_get_lt _ _ _ _ h1 (by omega), over_get_lt _ _ _ _ h1 (by omega)]
 ·by_cases h2 : i < o + ys.length
  ·rw [over_get_lt _ _ _ _ h2 (by omega), over_get_in _ _ _ _ (by omega) h2 (by omega), over_get_in _ _ _ _ (by omega) (by simp; omega) (by omega), List.getElem?_append_left (by omega)]
  ·by_cases h3 : i < o + ys.length + zs.length
   ·rw [over_get_in _ _ _ _ (by omega) h3 (by omega), over_get_in _ _ _ _ (by omega) (by simp; omega) (by omega), List.getElem?_append_right (by omega)]
    congr 1
    omega
   ·rw [over_get_ge _ _ _ _ (by omega) (by omega), over_get_ge _ _ _ _ (by omega) (by omega), over_get_ge _ _ _ _ (by simp; omega) (by simp; omega)]
theorem over_top (C : List Nat) (o : Nat) (zs : List Nat) (i : Nat) (hi : i < zs.length) (h : o + zs.length ≤ C.length) : (over C (o + i + 1) (zs.drop (i + 1))).set (o + i) zs[i] = over C (o + i) (zs.drop i) := by
 refine List.ext_getElem? fun j => ?_
 have hl : (over C (o + i + 1) (zs.drop (i + 1))).length = C.length := over_length _ _ _ (by simp; omega)
 rw [List.getElem?_set]
 by_cases h1 : o + i = j
 ·subst h1
  rw [if_pos rfl, if_pos (by omega), over_get_in _ _ _ _ (by omega) (by simp; omega) (by omega), List.getElem?_drop, List.getElem?_eq_getElem (by omega)]
  simp
 ·rw [if_neg h1]
  by_cases h2 : j < o + i
  ·rw [over_get_lt _ _ _ _ (by omega) (by omega), over_get_lt _ _ _ _ h2 (by omega)]
  ·by_cases h3 : j < o + zs.length
   ·rw [over_get_in _ _ _ _ (by omega) (by simp; omega) (by omega), over_get_in _ _ _ _ (by omega) (by simp; omega) (by omega), List.getElem?_drop, List.getElem?_drop]
    congr 1
    omega
   ·rw [over_get_ge _ _ _ _ (by simp; omega) (by simp; omega), over_get_ge _ _ _ _ (by simp; omega) (by simp; omega)]
end Go.Proofs.YthocmhkafgpgbaaGreatDoor
namespace Go.Proofs.YthocmhkafgpgbaaGreatDoor
theorem dig_get {B : Nat} (hB : 1 < B) (n : Nat) : ∀ (t : Nat), (digs B n).getD t 0 = n / B ^ t % B := by
 intro t
 induction t generalizing n with
 | zero =>
  by_cases h0 : n = 0
  ·subst h0; rw [digs_zero]; simp
  ·rw [digs_pos hB h0]; simp
 | succ t ih =>
  by_cases h0 : n = 0
  ·subst h0; rw [digs_zero]; simp
  ·rw [digs_pos hB h0, List.getD_cons_succ, ih (n / B), Nat.div_div_eq_div_mul, Nat.pow_succ, Nat.mul_comm B]
theorem dig_lt {B : Nat} (hB : 1 < B) (n t : Nat) : t < (digs B n).length ↔ n / B ^ t ≠ 0 := by
 have hp : 0 < B ^ t := Nat.pow_pos (by omega)
 have h := digs_length_le hB (n := n) (k := t)
 constructor
 ·intro h1 h2
  have := h.2 ((Nat.div_eq_zero_iff_lt hp).1 h2)
  omega
 ·intro h1
  rcases Nat.lt_or_ge t (digs B n).length with h2 | h2
  ·exact h2
  ·exact absurd ((Nat.div_eq_zero_iff_lt hp).2 (h.1 h2)) h1
theorem div_pow_succ (n B i : Nat) : n / B ^ (i + 1) = n / B ^ i / B := by rw [Nat.pow_succ, Nat.div_div_eq_div_mul]
end Go.Proofs.YthocmhkafgpgbaaGreatDoor
namespace Go.Proofs.YthocmhkafgpgbaaGreatDoor
theorem WB_split {s : Nat} (h : s ≤ 64) : WB = 2 ^ s * 2 ^ (64 - s) := by
 rw [← Nat.pow_add, show s + (64 - s) = 64 by omega, WB_eq]
theorem two_pos (s : Nat) : 0 < 2 ^ s := Nat.pow_pos (by omega)
theorem shl_low {s x : Nat} (h : s ≤ 64) : x * 2 ^ s % WB = (x % 2 ^ (64 - s)) * 2 ^ s := by
 rw [WB_split h, Nat.mul_comm (2 ^ s), Nat.mul_mod_mul_right]
theorem shl_high {s x : Nat} (h : s ≤ 64) : x * 2 ^ s / WB = x / 2 ^ (64 - s) := by
 rw [WB_split h, Nat.mul_comm x, Nat.mul_div_mul_left _ _ (two_pos s)]
theorem shr_lt {s y : Nat} (h : s ≤ 64) (hy : y < WB) : y / 2 ^ (64 - s) < 2 ^ s := by
 rw [Nat.div_lt_iff_lt_mul (two_pos _), ← WB_split h]; exact hy
theorem shl_or {s x c : Nat} (h : s ≤ 64) (hc : c < 2 ^ s) : x * 2 ^ s % WB ||| c = x * 2 ^ s % WB + c := by
 rw [shl_low h, ← Nat.shiftLeft_eq, Nat.shiftLeft_add_eq_or_of_lt hc]
end Go.Proofs.YthocmhkafgpgbaaGreatDoor
namespace Go.Proofs.YthocmhkafgpgbaaGreatDoor
theorem guess21 {B d e x1 x0 q : Nat} (h1 : e * d + 1 ≤ B * B) (h2 : B * B ≤ e * d + d) (h3 : B * q ≤ e * x1 + x0) (h4 : e * x1 + x0 < B * q + B) (hx1 : x1 + 1 ≤ d) (hx0 : x0 + 1 ≤ B) (hd : d < B) :
  d * q ≤ x1 * B + x0 ∧ x1 * B + x0 < d * q + B + d := by
 have hB : 0 < B := by omega
 constructor
 ·refine Nat.le_of_mul_le_mul_left (c := B) ?_ hB
  have a1 := Nat.mul_le_mul_left d h3
  have a2 := Nat.mul_le_mul_right x1 h1
  have a3 := Nat.mul_le_mul_right x0 (Nat.le_of_lt hd)
  have e1 : d * (B * q) = B * (d * q) := Nat.mul_left_comm _ _ _
  have e2 : d * (e * x1) = e * d * x1 := by rw [← Nat.mul_assoc, Nat.mul_comm d e]
  have e3 : B * (x1 * B) = B * B * x1 := by rw [Nat.mul_comm x1 B, Nat.mul_assoc]
  rw [Nat.mul_add, e1, e2] at a1
  rw [Nat.add_mul] at a2
  rw [Nat.mul_add, e3]
  omega
 ·refine Nat.lt_of_mul_lt_mul_left (a := B) ?_
  have hd0 : 0 < d := by omega
  have a1 := (Nat.mul_lt_mul_left hd0).2 h4
  have a2 := Nat.mul_le_mul_right x1 h2
  obtain ⟨k, rfl⟩ : ∃ k, B = d + k := ⟨B - d, by omega⟩
  have a3 := Nat.mul_le_mul_left k hx0
  have a4 := Nat.mul_le_mul_left d hx1
  have e1 : d * ((d + k) * q) = (d + k) * (d * q) := Nat.mul_left_comm _ _ _
  have e2 : d * (e * x1) = e * d * x1 := by rw [← Nat.mul_assoc, Nat.mul_comm d e]
  have e3 : (d + k) * (x1 * (d + k)) = (d + k) * (d + k) * x1 := by rw [Nat.mul_comm x1, Nat.mul_assoc]
  simp only [Nat.mul_add, e1, e2] at a1
  rw [Nat.add_mul (e * d) d x1] at a2
  rw [Nat.mul_add (d + k) _ x0, e3]
  simp only [Nat.mul_add, Nat.add_mul] at a1 a2 a3 a4 ⊢
  have c1 : d * k = k * d := Nat.mul_comm _ _
  omega
theorem recip_bounds {B d : Nat} (hd : d < B) (hd0 : 0 < d) : B ≤ (B * B - 1) / d ∧ (B * B - 1) / d * d + 1 ≤ B * B ∧ B * B ≤ (B * B - 1) / d * d + d := by
 have hB : 0 < B * B := Nat.mul_pos (by omega) (by omega)
 have h1 := Nat.div_mul_le_self (B * B - 1) d
 have h2 := Nat.lt_div_mul_add (a := B * B - 1) hd0
 refine ⟨?_, by omega, by omega⟩
 rw [Nat.le_div_iff_mul_le hd0]
 have : B * d + B ≤ B * B := by rw [← Nat.mul_succ]; exact Nat.mul_le_mul_left _ hd
 omega
def recip (d : Nat) : Nat := (WB * WB - 1) / d - WB
theorem div21 {d x1 x0 : Nat} (hd : d < WB) (hd2 : WB ≤ 2 * d) (hx1 : x1 < d) (hx0 : x0 < WB) :
  ∃ q r, q = (recip d * x1 + x0 + x1 * WB) / WB ∧ q < WB ∧ d * q + r = x1 * WB + x0 ∧ r < WB + d := by
 have hd0 : 0 < d := by omega
 obtain ⟨h0, h1, h2⟩ := recip_bounds hd hd0
 have e : recip d * x1 + x0 + x1 * WB = (WB * WB - 1) / d * x1 + x0 := by
  unfold recip
  obtain ⟨k, hk⟩ : ∃ k, (WB * WB - 1) / d = WB + k := ⟨_, (Nat.add_sub_cancel' h0).symm⟩
  rw [hk, Nat.add_sub_cancel_left, Nat.add_mul, Nat.mul_comm x1 WB]
  omega
 rw [e]
 generalize (WB * WB - 1) / d = E at *
 have h3 := Nat.mul_div_le (E * x1 + x0) WB
 have h4 : E * x1 + x0 < WB * ((E * x1 + x0) / WB) + WB := by
  have := Nat.mod_lt (E * x1 + x0) WB_pos
  have := Nat.div_add_mod (E * x1 + x0) WB
  omega
 obtain ⟨g1, g2⟩ := guess21 h1 h2 h3 h4 hx1 hx0 hd
 refine ⟨_, x1 * WB + x0 - d * ((E * x1 + x0) / WB), rfl, ?_, by omega, by omega⟩
 rw [Nat.div_lt_iff_lt_mul WB_pos]
 have a := Nat.mul_le_mul_left E hx1
 rw [Nat.mul_succ] at a
 have b : WB ≤ E := h0
 omega
theorem div21_fix {d X q r : Nat} (hd : d < WB) (hd2 : WB ≤ 2 * d) (h : d * q + r = X) (hr : r < WB + d) :
  X / d = (if WB ≤ r then (if d ≤ r - d then q + 2 else q + 1) else if d ≤ r then q + 1 else q) ∧ X % d = (if WB ≤ r then (if d ≤ r - d then r - d - d else r - d) else if d ≤ r then r - d else r) := by
 have hw := WB_pos
 have key : ∀ k s, d * k + s = X → s < d → X / d = k ∧ X % d = s := fun k s hk hs => by
  subst hk
  rw [Nat.mul_add_div (by omega), Nat.div_eq_of_lt hs, Nat.mul_add_mod, Nat.mod_eq_of_lt hs]
  exact ⟨rfl, rfl⟩
 split
 ·split
  ·exact key _ _ (by rw [Nat.mul_add]; omega) (by omega)
  ·exact key _ _ (by rw [Nat.mul_add]; omega) (by omega)
 ·split
  ·exact key _ _ (by rw [Nat.mul_add]; omega) (by omega)
  ·exact key _ _ h (by omega)
end Go.Proofs.YthocmhkafgpgbaaGreatDoor
namespace Go.Proofs.YthocmhkafgpgbaaGreatDoor
structure D32 (un u1 y y1 y0 Q q r : Nat) : Prop where
 eq : q * y1 + r = un
 ge : Q ≤ q
 le : q ≤ 4294967297
theorem D32.start {un u1 y y1 y0 : Nat} (hy : y = y1 * 4294967296 + y0) (h0 : y0 < 4294967296) (h1 : u1 < 4294967296) (hn : 2147483648 ≤ y1) (hu : un < y) : D32 un u1 y y1 y0 ((un * 4294967296 + u1) / y) (un / y1) (un % y1) := by
 refine ⟨by rw [Nat.mul_comm]; exact Nat.div_add_mod un y1, ?_, ?_⟩
 ·rw [Nat.le_div_iff_mul_le (by omega)]
  have h := Nat.div_mul_le_self (un * 4294967296 + u1) y
  generalize (un * 4294967296 + u1) / y = Q at *
  subst hy
  rw [Nat.mul_add, ← Nat.mul_assoc] at h
  generalize Q * y1 = p at *
  omega
 ·have : un / y1 < 4294967298 := by
   rw [Nat.div_lt_iff_lt_mul (by omega)]
   omega
  omega
theorem D32.quo_lt {un u1 y : Nat} (h1 : u1 < 4294967296) (hu : un < y) : (un * 4294967296 + u1) / y < 4294967296 := by
 rw [Nat.div_lt_iff_lt_mul (by omega)]; omega
theorem D32.big {un u1 y y1 y0 Q q r : Nat} (h : D32 un u1 y y1 y0 Q q r) (hQ : Q < 4294967296) (hq : 4294967296 ≤ q) : D32 un u1 y y1 y0 Q (q - 1) (r + y1) := by
 obtain ⟨h1, h2, h3⟩ := h
 obtain ⟨k, rfl⟩ : ∃ k, q = k + 1 := ⟨q - 1, by omega⟩
 rw [Nat.succ_mul] at h1
 exact ⟨by simp only [Nat.add_sub_cancel]; omega, by omega, by omega⟩
theorem D32.over {un u1 y y1 y0 q r : Nat} (hy : y = y1 * 4294967296 + y0) (h : D32 un u1 y y1 y0 ((un * 4294967296 + u1) / y) q r) (hp : 4294967296 * r + u1 < q * y0) : D32 un u1 y y1 y0 ((un * 4294967296 + u1) / y) (q - 1) (r + y1) := by
 obtain ⟨h1, h2, h3⟩ := h
 have hq : 0 < q := by
  rcases Nat.eq_zero_or_pos q with e | e
  ·rw [e] at hp; simp at hp
  ·exact e
 have hy0 : 0 < y := by
  rcases Nat.eq_zero_or_pos y0 with e | e
  ·rw [e] at hp; simp at hp
  ·omega
 have hlt : (un * 4294967296 + u1) / y < q := by
  rw [Nat.div_lt_iff_lt_mul hy0]
  subst hy
  rw [Nat.mul_add, ← Nat.mul_assoc]
  generalize q * y1 = a at *
  generalize q * y0 = p at *
  omega
 obtain ⟨k, rfl⟩ : ∃ k, q = k + 1 := ⟨q - 1, by omega⟩
 rw [Nat.succ_mul] at h1
 exact ⟨by simp only [Nat.add_sub_cancel]; omega, by omega, by omega⟩
theorem D32.exact_ {un u1 y y1 y0 q r : Nat} (hy : y = y1 * 4294967296 + y0) (hy0 : 0 < y) (h : D32 un u1 y y1 y0 ((un * 4294967296 + u1) / y) q r) (hp : q * y0 ≤ 4294967296 * r + u1) : q = (un * 4294967296 + u1) / y := by
 obtain ⟨h1, h2, h3⟩ := h
 refine Nat.le_antisymm ?_ h2
 rw [Nat.le_div_iff_mul_le hy0]
 subst hy
 rw [Nat.mul_add, ← Nat.mul_assoc]
 generalize q * y1 = a at *
 generalize q * y0 = p at *
 omega
theorem d32_aux {q y0 r u1 b : Nat} (hq : q ≤ b) (hy : y0 < b) (hr : b ≤ r) : q * y0 ≤ b * r + u1 := by
 have h1 := Nat.mul_le_mul_right y0 hq
 have h2 := Nat.mul_le_mul_left b (show y0 ≤ r by omega)
 omega
theorem D32.exact_break {un u1 y y1 y0 q r : Nat} (hy : y = y1 * 4294967296 + y0) (hy0 : 0 < y) (hyl : y0 < 4294967296) (h : D32 un u1 y y1 y0 ((un * 4294967296 + u1) / y) q r) (hq : q ≤ 4294967296) (hr : 4294967296 ≤ r) : q = (un * 4294967296 + u1) / y := by
 refine h.exact_ hy hy0 ?_
 exact d32_aux hq hyl hr
theorem two_digits_aux {X b y R Q l1 l0 : Nat} (hy : 0 < y) (e : X = y * (Q * b) + (R * b + l0)) : X / y = Q * b + (R * b + l0) / y ∧ X % y = (R * b + l0) % y := by
 rw [e, Nat.mul_add_div hy, Nat.mul_add_mod]
 exact ⟨rfl, rfl⟩
theorem two_digits {hi lo y Q R l1 l0 : Nat} (hy : 0 < y) (hl : lo = l1 * 4294967296 + l0) (hQ : y * Q + R = hi * 4294967296 + l1) : (hi * WB + lo) / y = Q * 4294967296 + (R * 4294967296 + l0) / y ∧
  (hi * WB + lo) % y = (R * 4294967296 + l0) % y := by
 refine two_digits_aux (l1 := 0) hy ?_
 rw [WB_eq, ← Nat.mul_assoc, hl]
 omega
end Go.Proofs.YthocmhkafgpgbaaGreatDoor
namespace Go.Proofs.YthocmhkafgpgbaaGreatDoor
theorem val_take_getD {B : Nat} (xs : List Nat) (i : Nat) (h : i < xs.length) : val B (xs.take (i + 1)) = val B (xs.take i) + B ^ i * xs.getD i 0 := by
 rw [val_take_succ xs i h]
 simp [List.getD_eq_getElem?_getD, List.getElem?_eq_getElem h]
theorem val_drop_getD {B : Nat} (xs : List Nat) (i : Nat) (h : i < xs.length) : val B (xs.drop i) = xs.getD i 0 + B * val B (xs.drop (i + 1)) := by
 rw [val_drop_cons xs i h]
 simp [List.getD_eq_getElem?_getD, List.getElem?_eq_getElem h]
theorem val_set_getD {B : Nat} (xs : List Nat) (p d : Nat) (h : p < xs.length) : val B (xs.set p d) + B ^ p * xs.getD p 0 = val B xs + B ^ p * d := by
 have := val_set (B := B) xs p d h
 simpa [List.getD_eq_getElem?_getD, List.getElem?_eq_getElem h] using this
theorem mul_inner_step {L : Nat} {os : List Nat} {i j x b c d c' V0 T : Nat} (hp : i + j < os.length) (h : val L os + L ^ (i + j) * c = V0 + L ^ i * x * T) (hd : d + L * c' = os.getD (i + j) 0 + x * b + c) :
  val L (os.set (i + j) d) + L ^ (i + (j + 1)) * c' = V0 + L ^ i * x * (T + L ^ j * b) := by
 have hs := val_set_getD (B := L) os (i + j) d hp
 have e1 : L ^ (i + (j + 1)) * c' = L ^ (i + j) * (L * c') := by rw [← Nat.add_assoc, Nat.pow_succ, Nat.mul_assoc]
 have e2 : L ^ i * x * (T + L ^ j * b) = L ^ i * x * T + L ^ (i + j) * (x * b) := by
  rw [Nat.mul_add, Nat.pow_add]
  congr 1
  rw [Nat.mul_assoc, Nat.mul_assoc, Nat.mul_left_comm x]
 have e3 : L ^ (i + j) * (d + L * c') = L ^ (i + j) * (os.getD (i + j) 0 + x * b + c) := by rw [hd]
 simp only [Nat.mul_add] at e3
 rw [e1, e2]
 omega
theorem spMac_lt {L o x b c : Nat} (ho : o < L) (hx : x < L) (hb : b < L) (hc : c < L) : o + x * b + c < L * L := by
 have h1 : x * b ≤ (L - 1) * (L - 1) := Nat.mul_le_mul (by omega) (by omega)
 obtain ⟨M, rfl⟩ : ∃ M, L = M + 1 := ⟨L - 1, by omega⟩
 simp only [Nat.add_sub_cancel] at h1
 have : (M + 1) * (M + 1) = M * M + 2 * M + 1 := by rw [Nat.add_mul, Nat.mul_add]; omega
 omega
theorem short_step {L : Nat} {us qs : List Nat} {i b r : Nat} (ha : i < us.length) (hq : i < qs.length) (h : val L (qs.drop (i + 1)) * b + r = val L (us.drop (i + 1))) :
  val L ((qs.set i ((r * L + us.getD i 0) / b)).drop i) * b + (r * L + us.getD i 0) % b = val L (us.drop i) := by
 rw [val_drop_getD us i ha, val_drop_getD _ i (by simpa using hq)]
 have e1 : (qs.set i ((r * L + us.getD i 0) / b)).getD i 0 = (r * L + us.getD i 0) / b := by simp [List.getD_eq_getElem?_getD, hq]
 have e2 : (qs.set i ((r * L + us.getD i 0) / b)).drop (i + 1) = qs.drop (i + 1) := by
  rw [List.drop_set_of_lt (by omega)]
 rw [e1, e2, ← h, Nat.add_mul]
 have := Nat.div_add_mod (r * L + us.getD i 0) b
 rw [Nat.mul_comm] at this
 have e3 : L * val L (qs.drop (i + 1)) * b = L * (val L (qs.drop (i + 1)) * b) := by rw [Nat.mul_assoc]
 rw [e3, Nat.mul_add, Nat.mul_comm r L] at *
 omega
theorem short_end {v b r A : Nat} (hr : r < b) (h : v * b + r = A) : v = A / b ∧ r = A % b := by
 subst h
 rw [Nat.mul_comm]
 constructor
 ·rw [Nat.mul_add_div (by omega), Nat.div_eq_of_lt hr]; rfl
 ·rw [Nat.mul_add_mod, Nat.mod_eq_of_lt hr]
theorem spSub_end {L v A B c n : Nat} (hv : v < L ^ n) (hle : B ≤ A) (h : v + B = A + L ^ n * c) : v = A - B := by
 cases c with
 | zero => omega
 | succ c =>
  have : L ^ n * (c + 1) = L ^ n * c + L ^ n := by rw [Nat.mul_add, Nat.mul_one]
  omega
end Go.Proofs.YthocmhkafgpgbaaGreatDoor
namespace Go.Proofs.YthocmhkafgpgbaaGreatDoor
open Go.RowKit Go.Proofs.YthocmhkafgpgbaaGreatDoorW.PrintWords
def il (xs : List Nat) : List Int := xs.map fun (n : Nat) => (n : Int)
theorem il_length (xs : List Nat) : (il xs).length = xs.length := by simp [il]
theorem il_append (xs ys : List Nat) : il (xs ++ ys) = il xs ++ il ys := by simp [il]
theorem il_get (xs : List Nat) (i : Nat) : (il xs).getD i 0 = ((xs.getD i 0 : Nat) : Int) := by
 simp only [il, List.getD_eq_getElem?_getD, List.getElem?_map]
 cases xs[i]? <;> simp
theorem rd_il (xs : List Nat) (i : Nat) : rd (il xs) (i : Int) = ((xs.getD i 0 : Nat) : Int) := by
 unfold rd
 rw [show ((i : Int)).toNat = i by omega]
 exact il_get xs i
theorem il_set (xs : List Nat) (i v : Nat) : (il xs).set i (v : Int) = il (xs.set i v) := by simp [il, List.map_set]
theorem il_replicate (n : Nat) : List.replicate n (0 : Int) = il (List.replicate n 0) := by simp [il]
end Go.Proofs.YthocmhkafgpgbaaGreatDoor
namespace Go.Proofs.YthocmhkafgpgbaaGreatDoor
open Go.RowKit Go.Proofs.YthocmhkafgpgbaaGreatDoorW.PrintWords Go.Proofs.YthocmhkafgpgbaaGreatDoor.PFnVaFieldFixed
theorem w64 {x : Int} (h : -9223372036854775808 ≤ x) (h2 : x < 9223372036854775808) : wrap64 x = x := by unfold wrap64; omega
theorem wu64 {x : Int} (h : 0 ≤ x) (h2 : x < 18446744073709551616) : IntKind.u64.wrap x = x := by
 simp [IntKind.wrap, IntKind.bits, IntKind.signed]; omega
theorem il_take (xs : List Nat) (n : Nat) : (il xs).take n = il (xs.take n) := by simp [il, List.map_take]
theorem trim_ev : ∀ (n : Nat) (xs : List Nat), xs.length = n → n ≤ 17179869184 → Words LB xs → Ev (fun k => spec_natTrim.f k (il xs)) (il (digs LB (val LB xs)))
 | 0, xs, hl, _, _ => by
  obtain rfl := List.eq_nil_of_length_eq_zero hl
  refine ⟨1, fun k hk => ?_⟩
  obtain ⟨m, rfl⟩ : ∃ m, k = m + 1 := ⟨k - 1, by omega⟩
  simp [spec_natTrim.f, spec_natTrim.l0, il, val, digs_zero]
 | n + 1, xs, hl, hn, hw => by
  have hw1 : wrap64 (((n + 1 : Nat) : Int) - 1) = (n : Int) := by rw [w64 (by omega) (by omega)]; omega
  have hne : xs ≠ [] := fun e => by subst e; simp at hl
  by_cases hz : xs.getD n 0 = 0
  ·have e : xs = xs.take n ++ [0] := by
    refine List.ext_getElem (by simp; omega) (fun j h1 h2 => ?_)
    by_cases hj : j < n
    ·rw [List.getElem_append_left (by simp; omega)]; simp
    ·obtain rfl : j = n := by omega
     rw [List.getElem_append_right (by simp; omega)]
     simpa [List.getD_eq_getElem?_getD, List.getElem?_eq_getElem h1] using hz
   have hv : val LB xs = val LB (xs.take n) := by
    conv => lhs; rw [e]
    rw [val_snoc]; simp
   rw [hv]
   refine Ev.step (f := fun k => spec_natTrim.f k (il (xs.take n))) (fun k => ?_) (trim_ev n (xs.take n) (by simp; omega) (by omega) (hw.take n))
   simp only [spec_natTrim.f, spec_natTrim.l0, il_length, hl, hw1, rd_il, hz]
   rw [if_pos (by omega), if_pos (by omega), if_pos (by omega), if_pos (by simp), if_pos (by omega), il_take, show ((n : Int)).toNat = n by omega]
  ·have hd : digs LB (val LB xs) = xs := digs_val LB_one hw (fun hne => by
    rw [List.getLast_eq_getElem]
    intro h0
    apply hz
    simp only [hl] at h0
    rw [List.getD_eq_getElem?_getD, List.getElem?_eq_getElem (by omega)]
    simpa using h0)
   rw [hd]
   refine ⟨1, fun k hk => ?_⟩
   obtain ⟨m, rfl⟩ : ∃ m, k = m + 1 := ⟨k - 1, by omega⟩
   simp only [spec_natTrim.f, spec_natTrim.l0, il_length, hl, hw1, rd_il]
   rw [if_pos (by omega), if_pos (by omega), if_pos (by omega), if_neg (by omega)]
theorem natFrom_ev : ∀ (d n : Nat) (os : List Nat), (digs LB n).length = d → n < 18446744073709551616 → os.length + d ≤ 1000 → Ev (fun k => spec_NatFrom.l0 k (n : Int) (il os)) (il (os ++ digs LB n))
 | 0, n, os, hd, hn, hl => by
  have h0 : n = 0 := (digs_eq_nil LB_one).1 (List.eq_nil_of_length_eq_zero hd)
  subst h0
  refine ⟨1, fun k hk => ?_⟩
  obtain ⟨m, rfl⟩ : ∃ m, k = m + 1 := ⟨k - 1, by omega⟩
  simp [spec_NatFrom.l0, digs_zero]
 | d + 1, n, os, hd, hn, hl => by
  have h0 : n ≠ 0 := fun e => by subst e; rw [digs_zero] at hd; simp at hd
  have e := digs_pos LB_one h0
  have ih := natFrom_ev d (n / LB) (os ++ [n % LB]) (by rw [e] at hd; simpa using hd) (Nat.lt_of_le_of_lt (Nat.div_le_self _ _) hn) (by simp; omega)
  have e2 : os ++ digs LB n = os ++ [n % LB] ++ digs LB (n / LB) := by rw [e]; simp
  rw [e2]
  refine Ev.step (fun k => ?_) ih
  have t1 : IntKind.u64.wrap (Int.tdiv (n : Int) 1000000000) = ((n / LB : Nat) : Int) := by
   rw [Int.tdiv_eq_ediv_of_nonneg (by omega), wu64 (by omega) (by omega), LB_eq]; omega
  have t2 : Int.tmod (n : Int) 1000000000 % 4294967296 = ((n % LB : Nat) : Int) := by
   rw [Int.tmod_eq_emod_of_nonneg (by omega), LB_eq]; omega
  simp only [spec_NatFrom.l0, il_length, t1, t2]
  rw [if_pos (by omega), if_pos (by omega), il_append]
  rfl
theorem NatFrom_ev (n : Nat) (hn : n < 18446744073709551616) : Ev (fun k => spec_NatFrom.f k (n : Int)) (il (digs LB n)) := by
 have hl : (digs LB n).length ≤ 3 := (digs_length_le LB_one).2 (by rw [LB_eq]; omega)
 have := natFrom_ev _ n [] rfl hn (by simp; omega)
 simpa [spec_NatFrom.f, il] using this
theorem sum_two (c a b : Nat) (h : c + a + b < 2000000000) : (((c : Int) + (a : Int)) % 4294967296 + (b : Int)) % 4294967296 = ((c + a + b : Nat) : Int) := by omega
theorem sum_one (c a : Nat) (h : c + a < 2000000000) : ((c : Int) + (a : Int)) % 4294967296 = ((c + a : Nat) : Int) := by omega
theorem dig_mod (s : Nat) : (s : Int) % 1000000000 = ((s % LB : Nat) : Int) := by rw [LB_eq]; omega
theorem dig_div (s : Nat) : (s : Int) / 1000000000 = ((s / LB : Nat) : Int) := by rw [LB_eq]; omega
theorem add_digs (c x y s : Nat) (hs : s = c + x % LB + y % LB) (h0 : c + x + y ≠ 0) : digs LB (c + x + y) = s % LB :: digs LB (s / LB + x / LB + y / LB) := by
 rw [digs_pos LB_one h0]
 have e3 : (c + x + y) / LB = s / LB + x / LB + y / LB := by rw [hs, LB_eq]; omega
 have e4 : (c + x + y) % LB = s % LB := by rw [hs, LB_eq]; omega
 rw [e3, e4]
theorem add_l0 (k : Nat) (xs ys os : List Int) (c i : Int) (h : i < (xs.length : Int) ∨ i < (ys.length : Int) ∨ c > 0) : spec_NatAdd.l0 (k + 1) xs ys os c i = spec_NatAdd.j1 k xs ys os c i true := by
 simp only [spec_NatAdd.l0]
 by_cases h1 : i < (xs.length : Int)
 ·rw [if_pos h1]
 ·rw [if_neg h1]
  by_cases h2 : i < (ys.length : Int)
  ·rw [if_pos h2]
  ·rw [if_neg h2, decide_eq_true (by omega)]
theorem add_l0_end (k : Nat) (xs ys os : List Int) (c i : Int) (h1 : ¬ i < (xs.length : Int)) (h2 : ¬ i < (ys.length : Int)) (h3 : ¬ c > 0) : spec_NatAdd.l0 (k + 2) xs ys os c i = some os := by
 simp only [spec_NatAdd.l0, spec_NatAdd.j1]
 rw [if_neg h1, if_neg h2, decide_eq_false h3]
 rfl
theorem add_j1 (k : Nat) (xs ys os : List Int) (c i a b s : Nat) (ha : rd xs (i : Int) = (a : Int)) (hb : rd ys (i : Int) = (b : Int)) (ha0 : ¬ (i : Int) < (xs.length : Int) → a = 0) (hb0 : ¬ (i : Int) < (ys.length : Int) → b = 0) (hs : s = c + a + b) (hsl : s < 2000000000)
  (hos : os.length < 35184372088832) (hi : i < 9223372036854775807) : spec_NatAdd.j1 (k + 1) xs ys os (c : Int) (i : Int) true = spec_NatAdd.l0 k xs ys (os ++ [((s % LB : Nat) : Int)]) ((s / LB : Nat) : Int) ((i + 1 : Nat) : Int) := by
 have hw : wrap64 ((i : Int) + 1) = ((i + 1 : Nat) : Int) := by rw [w64 (by omega) (by omega)]; omega
 simp only [spec_NatAdd.j1, ha, hb, hw, if_true]
 by_cases h1 : (i : Int) < (xs.length : Int)
 ·rw [if_pos h1, if_pos (by omega)]
  by_cases h2 : (i : Int) < (ys.length : Int)
  ·rw [if_pos h2, if_pos hos, sum_two _ _ _ (by omega), ← hs, dig_mod, dig_div]
  ·obtain rfl := hb0 h2
   obtain rfl : s = c + a := hs
   rw [if_neg h2, if_pos hos, sum_one _ _ (by omega), dig_mod, dig_div]
 ·obtain rfl := ha0 h1
  rw [if_neg h1]
  by_cases h2 : (i : Int) < (ys.length : Int)
  ·obtain rfl : s = c + b := by omega
   rw [if_pos h2, if_pos (by omega), if_pos hos, sum_one _ _ (by omega), dig_mod, dig_div]
  ·obtain rfl := hb0 h2
   obtain rfl : s = c := hs
   rw [if_neg h2, if_pos hos, Int.tmod_eq_emod_of_nonneg (by omega), Int.tdiv_eq_ediv_of_nonneg (by omega), dig_mod, dig_div, show ((s / LB : Nat) : Int) % 4294967296 = ((s / LB : Nat) : Int) by rw [LB_eq]; omega]
end Go.Proofs.YthocmhkafgpgbaaGreatDoor
