/- Parts of the walk. -/

set_option linter.unusedVariables false
set_option linter.unusedSimpArgs false
namespace Go.Proofs.YtgamldefngehlaaGreatDoor
def WB : Nat := 18446744073709551616
theorem WB_eq : WB = 18446744073709551616 := rfl
theorem WB_one : 1 < WB := by rw [WB_eq]; omega
theorem WB_pos : 0 < WB := by rw [WB_eq]; omega
def LB : Nat := 1000000000
theorem LB_eq : LB = 1000000000 := rfl
theorem LB_one : 1 < LB := by rw [LB_eq]; omega
theorem LB_pos : 0 < LB := by rw [LB_eq]; omega
def val (B : Nat) : List Nat → Nat
 | [] => 0
 | x :: xs => x + B * val B xs
variable {B : Nat}
theorem val_nil : val B [] = 0 := rfl
theorem val_cons (x : Nat) (xs : List Nat) : val B (x :: xs) = x + B * val B xs := rfl
theorem val_one (x : Nat) : val B [x] = x := by simp [val]
theorem val_append (xs ys : List Nat) : val B (xs ++ ys) = val B xs + B ^ xs.length * val B ys := by
 induction xs with
 | nil => simp [val]
 | cons x xs ih =>
  rw [List.cons_append, val_cons, val_cons, ih, List.length_cons, Nat.pow_succ, Nat.mul_add, Nat.add_assoc]
  congr 2
  rw [← Nat.mul_assoc, Nat.mul_comm B (B ^ _)]
theorem val_snoc (xs : List Nat) (x : Nat) : val B (xs ++ [x]) = val B xs + B ^ xs.length * x := by
 rw [val_append, val_one]
def Words (B : Nat) (xs : List Nat) : Prop := ∀ x ∈ xs, x < B
theorem Words.nil : Words B [] := fun _ h => by simp at h
theorem Words.cons {x : Nat} {xs : List Nat} (h : x < B) (hs : Words B xs) : Words B (x :: xs) := fun y hy => by
 rcases List.mem_cons.1 hy with rfl | hy
 ·exact h
 ·exact hs y hy
theorem Words.one {x : Nat} (h : x < B) : Words B [x] := .cons h .nil
theorem Words.append {xs ys : List Nat} (h : Words B xs) (h' : Words B ys) : Words B (xs ++ ys) := fun y hy => (List.mem_append.1 hy).elim (h y) (h' y)
theorem Words.snoc {x : Nat} {xs : List Nat} (hs : Words B xs) (h : x < B) : Words B (xs ++ [x]) := hs.append (.one h)
theorem Words.take {xs : List Nat} (h : Words B xs) (k : Nat) : Words B (xs.take k) := fun y hy => h y (List.mem_of_mem_take hy)
theorem Words.drop {xs : List Nat} (h : Words B xs) (k : Nat) : Words B (xs.drop k) := fun y hy => h y (List.mem_of_mem_drop hy)
theorem Words.get {xs : List Nat} (h : Words B xs) (i : Nat) (hi : i < xs.length) : xs[i] < B := h _ (List.getElem_mem hi)
theorem Words.getD {xs : List Nat} (h : Words B xs) (hB : 0 < B) (i : Nat) : xs.getD i 0 < B := by
 rw [List.getD_eq_getElem?_getD]
 by_cases hi : i < xs.length
 ·rw [List.getElem?_eq_getElem hi]; exact h.get i hi
 ·rw [List.getElem?_eq_none (by omega)]; exact hB
theorem Words.replicate (hB : 0 < B) (n : Nat) : Words B (List.replicate n 0) := fun x hx => by rw [(List.mem_replicate.1 hx).2]; exact hB
theorem val_lt {xs : List Nat} (h : Words B xs) : val B xs < B ^ xs.length := by
 induction xs with
 | nil => simp [val]
 | cons x xs ih =>
  have h1 : x < B := h x (by simp)
  have h2 := ih (fun y hy => h y (by simp [hy]))
  rw [val_cons, List.length_cons, Nat.pow_succ, Nat.mul_comm (B ^ _)]
  have h3 : B * (val B xs + 1) ≤ B * B ^ xs.length := Nat.mul_le_mul_left _ h2
  rw [Nat.mul_add] at h3
  omega
theorem val_replicate (n : Nat) : val B (List.replicate n 0) = 0 := by
 induction n with
 | zero => rfl
 | succ n ih => rw [List.replicate_succ, val_cons, ih]; simp
theorem val_take_succ (xs : List Nat) (i : Nat) (h : i < xs.length) : val B (xs.take (i + 1)) = val B (xs.take i) + B ^ i * xs[i] := by
 rw [List.take_succ_eq_append_getElem h, val_snoc, List.length_take, Nat.min_eq_left (by omega)]
theorem val_split (xs : List Nat) (i : Nat) (h : i ≤ xs.length) : val B xs = val B (xs.take i) + B ^ i * val B (xs.drop i) := by
 conv => lhs; rw [← List.take_append_drop i xs]
 rw [val_append, List.length_take, Nat.min_eq_left h]
theorem val_drop_cons (xs : List Nat) (i : Nat) (h : i < xs.length) : val B (xs.drop i) = xs[i] + B * val B (xs.drop (i + 1)) := by
 rw [List.drop_eq_getElem_cons h, val_cons]
theorem val_zeros (xs : List Nat) (n : Nat) : val B (xs ++ List.replicate n 0) = val B xs := by
 rw [val_append, val_replicate]; simp
theorem val_inj {xs ys : List Nat} (hx : Words B xs) (hy : Words B ys) (hl : xs.length = ys.length) (h : val B xs = val B ys) : xs = ys := by
 induction xs generalizing ys with
 | nil => exact (List.eq_nil_of_length_eq_zero hl.symm).symm
 | cons x xs ih =>
  cases ys with
  | nil => simp at hl
  | cons y ys =>
   have h1 : x < B := hx x (by simp)
   have h2 : y < B := hy y (by simp)
   rw [val_cons, val_cons] at h
   have e1 : x = y := by
    have := congrArg (· % B) h
    simpa [Nat.add_mul_mod_self_left, Nat.mod_eq_of_lt h1, Nat.mod_eq_of_lt h2] using this
   subst e1
   have e2 : val B xs = val B ys := Nat.eq_of_mul_eq_mul_left (by omega) (by omega : B * val B xs = B * val B ys)
   rw [ih (fun z hz => hx z (by simp [hz])) (fun z hz => hy z (by simp [hz])) (by simpa using hl) e2]
def digs (B n : Nat) : List Nat := if n = 0 ∨ B < 2 then [] else n % B :: digs B (n / B)
termination_by n
decreasing_by exact Nat.div_lt_self (by omega) (by omega)
theorem digs_zero : digs B 0 = [] := by unfold digs; simp
theorem digs_pos (hB : 1 < B) {n : Nat} (h : n ≠ 0) : digs B n = n % B :: digs B (n / B) := by rw [digs]; rw [if_neg (by omega)]
theorem val_digs (hB : 1 < B) (n : Nat) : val B (digs B n) = n := by
 induction n using Nat.strongRecOn with
 | ind n ih =>
  by_cases h : n = 0
  ·subst h; rw [digs_zero]; rfl
  ·rw [digs_pos hB h, val_cons, ih _ (Nat.div_lt_self (by omega) (by omega))]
   exact Nat.mod_add_div n B
theorem words_digs (hB : 1 < B) (n : Nat) : Words B (digs B n) := by
 induction n using Nat.strongRecOn with
 | ind n ih =>
  by_cases h : n = 0
  ·subst h; rw [digs_zero]; exact .nil
  ·rw [digs_pos hB h]
   exact .cons (Nat.mod_lt _ (by omega)) (ih _ (Nat.div_lt_self (by omega) (by omega)))
theorem digs_eq_nil (hB : 1 < B) {n : Nat} : digs B n = [] ↔ n = 0 := by
 constructor
 ·intro h; have := val_digs hB n; rw [h] at this; exact this.symm
 ·rintro rfl; exact digs_zero
theorem digs_small (hB : 1 < B) {n : Nat} (h : n ≠ 0) (hn : n < B) : digs B n = [n] := by
 rw [digs_pos hB h, Nat.mod_eq_of_lt hn, Nat.div_eq_of_lt hn, digs_zero]
theorem digs_last (hB : 1 < B) (n : Nat) : ∀ h : digs B n ≠ [], (digs B n).getLast h ≠ 0 := by
 induction n using Nat.strongRecOn with
 | ind n ih =>
  intro h
  have hn : n ≠ 0 := fun e => h ((digs_eq_nil hB).2 e)
  have e := digs_pos hB hn
  by_cases hd : digs B (n / B) = []
  ·have h1 : n < B := by
    have := (digs_eq_nil hB).1 hd
    exact (Nat.div_eq_zero_iff.1 this).resolve_left (by omega)
   simp only [digs_small hB hn h1, List.getLast_singleton]
   exact hn
  ·have := ih _ (Nat.div_lt_self (by omega) (by omega)) hd
   simp only [e]
   rw [List.getLast_cons hd]
   exact this
theorem digs_val (hB : 1 < B) {xs : List Nat} (h : Words B xs) (hl : ∀ hne : xs ≠ [], xs.getLast hne ≠ 0) : digs B (val B xs) = xs := by
 induction xs with
 | nil => exact digs_zero
 | cons x xs ih =>
  have hx : x < B := h x (by simp)
  have hxs : Words B xs := fun y hy => h y (by simp [hy])
  have hxl : ∀ hne : xs ≠ [], xs.getLast hne ≠ 0 := fun hne => by have := hl (by simp); rwa [List.getLast_cons hne] at this
  have e := ih hxs hxl
  have hv : val B (x :: xs) ≠ 0 := by
   rw [val_cons]
   intro h0
   have hx0 : x = 0 := by omega
   have hv0 : val B xs = 0 := by
    rcases Nat.mul_eq_zero.1 (show B * val B xs = 0 by omega) with h | h
    ·omega
    ·exact h
   rw [hv0, digs_zero] at e
   subst e
   exact hl (by simp) (by simpa using hx0)
  rw [digs_pos hB hv, val_cons, Nat.add_mul_mod_self_left, Nat.mod_eq_of_lt hx, Nat.add_mul_div_left _ _ (by omega), Nat.div_eq_of_lt hx, Nat.zero_add, e]
theorem digs_length_le (hB : 1 < B) {n k : Nat} : (digs B n).length ≤ k ↔ n < B ^ k := by
 constructor
 ·intro h
  have h1 := val_lt (words_digs hB n)
  rw [val_digs hB] at h1
  exact Nat.lt_of_lt_of_le h1 (Nat.pow_le_pow_right (by omega) h)
 ·induction k generalizing n with
  | zero =>
   intro h
   have : n = 0 := by simpa using h
   subst this; rw [digs_zero]; exact Nat.le_refl _
  | succ k ih =>
   intro h
   by_cases h0 : n = 0
   ·subst h0; rw [digs_zero]; exact Nat.zero_le _
   ·rw [digs_pos hB h0, List.length_cons]
    have : n / B < B ^ k := by rw [Nat.div_lt_iff_lt_mul (by omega), ← Nat.pow_succ]; exact h
    have := ih this
    omega
theorem digs_length_mono (hB : 1 < B) {a b : Nat} (h : a ≤ b) : (digs B a).length ≤ (digs B b).length :=
 (digs_length_le hB).2 (Nat.lt_of_le_of_lt h ((digs_length_le hB).1 (Nat.le_refl _)))
theorem lt_of_digs_length (hB : 1 < B) {a b : Nat} (h : (digs B a).length < (digs B b).length) : a < b := by
 rcases Nat.lt_or_ge a b with h' | h'
 ·exact h'
 ·have := digs_length_mono hB h'; omega
theorem digs_len_pos (hB : 1 < B) {n : Nat} : 0 < (digs B n).length ↔ n ≠ 0 := by
 rw [List.length_pos_iff]; exact not_congr (digs_eq_nil hB)
theorem val_lt_of {xs ys : List Nat} (hx : Words B xs) (i : Nat) (h1 : i < xs.length) (h2 : i < ys.length) (hd : xs.drop (i + 1) = ys.drop (i + 1)) (hlt : xs[i] < ys[i]) : val B xs < val B ys := by
 rw [val_split xs i (by omega), val_split ys i (by omega), val_drop_cons xs i h1, val_drop_cons ys i h2, hd]
 have a := val_lt (hx.take i)
 rw [List.length_take, Nat.min_eq_left (by omega)] at a
 have b := Nat.mul_le_mul_left (B ^ i) (show xs[i] + B * val B (ys.drop (i + 1)) + 1 ≤ ys[i] + B * val B (ys.drop (i + 1)) by omega)
 rw [Nat.mul_add _ _ 1] at b
 omega
theorem val_step_add {zs : List Nat} {i : Nat} (hi : zs.length = i) {d c c' x y X Y : Nat} (h : val B zs + B ^ i * c = X + Y) (hd : d + B * c' = x + y + c) :
  val B (zs ++ [d]) + B ^ (i + 1) * c' = (X + B ^ i * x) + (Y + B ^ i * y) := by
 subst hi
 have e : B ^ zs.length * (d + B * c') = B ^ zs.length * (x + y + c) := by rw [hd]
 rw [Nat.mul_add, Nat.mul_add, Nat.mul_add] at e
 rw [val_snoc, Nat.pow_succ, Nat.mul_assoc]
 omega
theorem val_step_sub {zs : List Nat} {i : Nat} (hi : zs.length = i) {d c c' x y X Y : Nat} (h : val B zs + Y = X + B ^ i * c) (hd : d + y + c = x + B * c') :
  val B (zs ++ [d]) + (Y + B ^ i * y) = (X + B ^ i * x) + B ^ (i + 1) * c' := by
 subst hi
 have e : B ^ zs.length * (d + y + c) = B ^ zs.length * (x + B * c') := by rw [hd]
 rw [Nat.mul_add, Nat.mul_add, Nat.mul_add] at e
 rw [val_snoc, Nat.pow_succ, Nat.mul_assoc]
 omega
theorem val_step_mul {zs : List Nat} {i : Nat} (hi : zs.length = i) {d c c' x y X r : Nat} (h : val B zs + B ^ i * c = X * y + r) (hd : d + B * c' = x * y + c) :
  val B (zs ++ [d]) + B ^ (i + 1) * c' = (X + B ^ i * x) * y + r := by
 subst hi
 have e : B ^ zs.length * (d + B * c') = B ^ zs.length * (x * y + c) := by rw [hd]
 rw [Nat.mul_add, Nat.mul_add] at e
 rw [val_snoc, Nat.pow_succ, Nat.mul_assoc, Nat.add_mul, Nat.mul_assoc (B ^ _) x y]
 omega
theorem val_step_mac {zs : List Nat} {i : Nat} (hi : zs.length = i) {d c c' x y m X Y r : Nat} (h : val B zs + B ^ i * c = X + Y * m + r) (hd : d + B * c' = x + y * m + c) :
  val B (zs ++ [d]) + B ^ (i + 1) * c' = (X + B ^ i * x) + (Y + B ^ i * y) * m + r := by
 subst hi
 have e : B ^ zs.length * (d + B * c') = B ^ zs.length * (x + y * m + c) := by rw [hd]
 rw [Nat.mul_add, Nat.mul_add, Nat.mul_add] at e
 rw [val_snoc, Nat.pow_succ, Nat.mul_assoc, Nat.add_mul, Nat.mul_assoc (B ^ _) y m]
 omega
end Go.Proofs.YtgamldefngehlaaGreatDoor
namespace Go.Proofs.YtgamldefngehlaaGreatDoor
variable {B : Nat}
theorem set_form (xs : List Nat) (p d : Nat) (h : p < xs.length) : xs.set p d = xs.take p ++ d :: xs.drop (p + 1) := by
 rw [List.set_eq_take_append_cons_drop, if_pos h]
theorem val_set (xs : List Nat) (p d : Nat) (h : p < xs.length) : val B (xs.set p d) + B ^ p * xs[p] = val B xs + B ^ p * d := by
 rw [val_split xs p (by omega), set_form xs p d h, val_append, val_drop_cons xs p h, val_cons, List.length_take, Nat.min_eq_left (by omega)]
 simp only [Nat.mul_add]
 omega
def over (xs : List Nat) (o : Nat) (ys : List Nat) : List Nat := xs.take o ++ (ys ++ xs.drop (o + ys.length))
theorem over_length (xs : List Nat) (o : Nat) (ys : List Nat) (h : o + ys.length ≤ xs.length) : (over xs o ys).length = xs.length := by
 simp [over]; omega
theorem over_words {xs : List Nat} {o : Nat} {ys : List Nat} (hx : Words B xs) (hy : Words B ys) : Words B (over xs o ys) := (hx.take o).append (hy.append (hx.drop _))
theorem over_get_lt (xs : List Nat) (o : Nat) (ys : List Nat) (i : Nat) (h : i < o) (h' : o ≤ xs.length) : (over xs o ys)[i]? = xs[i]? := by
 unfold over
 rw [List.getElem?_append_left (by simp; omega), List.getElem?_take, if_pos h]
theorem over_get_in (xs : List Nat) (o : Nat) (ys : List Nat) (i : Nat) (h : o ≤ i) (h' : i < o + ys.length) (hl : o ≤ xs.length) : (over xs o ys)[i]? = ys[i - o]? := by
 unfold over
 rw [List.getElem?_append_right (by simp; omega), List.getElem?_append_left (by simp; omega)]
 simp [Nat.min_eq_left hl]
theorem over_get_ge (xs : List Nat) (o : Nat) (ys : List Nat) (i : Nat) (h : o + ys.length ≤ i) (h' : o + ys.length ≤ xs.length) : (over xs o ys)[i]? = xs[i]? := by
 unfold over
 rw [List.getElem?_append_right (by simp; omega), List.getElem?_append_right (by simp; omega), List.getElem?_drop]
 congr 1
 simp
 omega
theorem over_snoc (xs : List Nat) (o : Nat) (ys : List Nat) (d : Nat) (h : o + ys.length < xs.length) : (over xs o ys).set (o + ys.length) d = over xs o (ys ++ [d]) := by
 unfold over
 rw [List.set_append_right _ _ (by simp; omega), List.set_append_right _ _ (by simp; omega)]
 congr 1
 rw [List.append_assoc]
 congr 1
 have e : o + ys.length - (xs.take o).length - ys.length = 0 := by simp; omega
 rw [e, List.drop_eq_getElem_cons h]
 simp [Nat.add_assoc]
theorem over_nil (xs : List Nat) (o : Nat) : over xs o [] = xs := by simp [over]
theorem over_over (C : List Nat) (o : Nat) (ys zs : List Nat) (h : o + ys.length + zs.length ≤ C.length) : over (over C o ys) (o + ys.length) zs = over C o (ys ++ zs) := by
 refine List.ext_getElem? fun i => ?_
 have hl : (over C o ys).length = C.length := over_length _ _ _ (by omega)
 by_cases h1 : i < o
 ·rw [over_get_lt _ _ _ _ (by omega) (by omega), over_get_lt _ _ _ _ h1 (by omega), over_get_lt _ _ _ _ h1 (by omega)]
 ·by_cases h2 : i < o + ys.length
  ·rw [over_get_lt _ _ _ _ h2 (by omega), over_get_in _ _ _ _ (by omega) h2 (by omega), over_get_in _ _ _ _ (by omega) (by simp; omega) (by omega), List.getElem?_append_left (by omega)]
  ·by_cases h3 : i < o + ys.length + zs.length
   ·rw [over_get_in _ _ _ _ (by omega) h3 (by omega), over_get_in _ _ _ _ (by omega) (by simp; omega) (by omega), List.getElem?_append_right (by omega)]
    congr 1
    omega
   ·rw [over_get_ge _ _ _ _ (by omega) (by omega), over_get_ge _ _ _ _ (by omega) (by omega), over_get_ge _ _ _ _ (by simp; omega) (by simp; omega)]
theorem over_top (C : List Nat) (o : Nat) (zs : List Nat) (i : Nat) (hi : i < zs.length) (h : o + zs.length ≤ C.length) : (over C (o + i + 1) (zs.drop (i + 1))).set (o + i) zs[i] = over C (o + i) (zs.drop i) := by
 refine List.ext_getElem? fun j => ?_
 have hl : (over C (o + i + 1) (zs.drop (i + 1))).length = C.length := over_length _ _ _ (by simp; omega)
 rw [List.getElem?_set]
 by_cases h1 : o + i = j
 ·subst h1
  rw [if_pos rfl, if_pos (by omega), over_get_in _ _ _ _ (by omega) (by simp; omega) (by omega), List.getElem?_drop, List.getElem?_eq_getElem (by omega)]
  simp
 ·rw [if_neg h1]
  by_cases h2 : j < o + i
  ·rw [over_get_lt _ _ _ _ (by omega) (by omega), over_get_lt _ _ _ _ h2 (by omega)]
  ·by_cases h3 : j < o + zs.length
   ·rw [over_get_in _ _ _ _ (by omega) (by simp; omega) (by omega), over_get_in _ _ _ _ (by omega) (by simp; omega) (by omega), List.getElem?_drop, List.getElem?_drop]
    congr 1
    omega
   ·rw [over_get_ge _ _ _ _ (by simp; omega) (by simp; omega), over_get_ge _ _ _ _ (by simp; omega) (by simp; omega)]
end Go.Proofs.YtgamldefngehlaaGreatDoor
namespace Go.Proofs.YtgamldefngehlaaGreatDoor
theorem dig_get {B : Nat} (hB : 1 < B) (n : Nat) : ∀ (t : Nat), (digs B n).getD t 0 = n / B ^ t % B := by
 intro t
 induction t generalizing n with
 | zero =>
  by_cases h0 : n = 0
  ·subst h0; rw [digs_zero]; simp
  ·rw [digs_pos hB h0]; simp
 | succ t ih =>
  by_cases h0 : n = 0
  ·subst h0; rw [digs_zero]; simp
  ·rw [digs_pos hB h0, List.getD_cons_succ, ih (n / B), Nat.div_div_eq_div_mul, Nat.pow_succ, Nat.mul_comm B]
theorem dig_lt {B : Nat} (hB : 1 < B) (n t : Nat) : t < (digs B n).length ↔ n / B ^ t ≠ 0 := by
 have hp : 0 < B ^ t := Nat.pow_pos (by omega)
 have h := digs_length_le hB (n := n) (k := t)
 constructor
 ·intro h1 h2
  have := h.2 ((Nat.div_eq_zero_iff_lt hp).1 h2)
  omega
 ·intro h1
  rcases Nat.lt_or_ge t (digs B n).length with h2 | h2
  ·exact h2
  ·exact absurd ((Nat.div_eq_zero_iff_lt hp).2 (h.1 h2)) h1
theorem div_pow_succ (n B i : Nat) : n / B ^ (i + 1) = n / B ^ i / B := by rw [Nat.pow_succ, Nat.div_div_eq_div_mul]
end Go.Proofs.YtgamldefngehlaaGreatDoor
namespace Go.Proofs.YtgamldefngehlaaGreatDoor
theorem WB_split {s : Nat} (h : s ≤ 64) : WB = 2 ^ s * 2 ^ (64 - s) := by
 rw [← Nat.pow_add, show s + (64 - s) = 64 by omega, WB_eq]
theorem two_pos (s : Nat) : 0 < 2 ^ s := Nat.pow_pos (by omega)
theorem shl_low {s x : Nat} (h : s ≤ 64) : x * 2 ^ s % WB = (x % 2 ^ (64 - s)) * 2 ^ s := by
 rw [WB_split h, Nat.mul_comm (2 ^ s), Nat.mul_mod_mul_right]
theorem shl_high {s x : Nat} (h : s ≤ 64) : x * 2 ^ s / WB = x / 2 ^ (64 - s) := by
 rw [WB_split h, Nat.mul_comm x, Nat.mul_div_mul_left _ _ (two_pos s)]
theorem shr_lt {s y : Nat} (h : s ≤ 64) (hy : y < WB) : y / 2 ^ (64 - s) < 2 ^ s := by
 rw [Nat.div_lt_iff_lt_mul (two_pos _), ← WB_split h]; exact hy
theorem shl_or {s x c : Nat} (h : s ≤ 64) (hc : c < 2 ^ s) : x * 2 ^ s % WB ||| c = x * 2 ^ s % WB + c := by
 rw [shl_low h, ← Nat.shiftLeft_eq, Nat.shiftLeft_add_eq_or_of_lt hc]
theorem shl_sum_lt {s x c : Nat} (h : s ≤ 64) (hc : c < 2 ^ s) : x * 2 ^ s % WB + c < WB := by
 rw [shl_low h]
 have h1 : x % 2 ^ (64 - s) < 2 ^ (64 - s) := Nat.mod_lt _ (two_pos _)
 have h2 : (x % 2 ^ (64 - s) + 1) * 2 ^ s ≤ 2 ^ (64 - s) * 2 ^ s := Nat.mul_le_mul_right _ h1
 rw [Nat.mul_comm (2 ^ (64 - s)), ← WB_split h, Nat.succ_mul] at h2
 omega
def shlW (s : Nat) : Nat → List Nat → List Nat
 | _, [] => []
 | c, x :: xs => (x * 2 ^ s % WB + c) :: shlW s (x / 2 ^ (64 - s)) xs
def shlC (s : Nat) : Nat → List Nat → Nat
 | c, [] => c
 | _, x :: xs => shlC s (x / 2 ^ (64 - s)) xs
theorem shlW_length (s : Nat) : ∀ (xs : List Nat) (c : Nat), (shlW s c xs).length = xs.length
 | [], _ => rfl
 | x :: xs, c => by simp [shlW, shlW_length s xs]
theorem shlW_words {s : Nat} (h : s ≤ 64) : ∀ {xs : List Nat} {c : Nat}, Words WB xs → c < 2 ^ s → Words WB (shlW s c xs)
 | [], _, _, _ => .nil
 | x :: xs, c, hx, hc => .cons (shl_sum_lt h hc) (shlW_words h (fun y hy => hx y (by simp [hy])) (shr_lt h (hx x (by simp))))
theorem shlW_val {s : Nat} (h : s ≤ 64) : ∀ (xs : List Nat) (c : Nat), val WB (shlW s c xs) + WB ^ xs.length * shlC s c xs = val WB xs * 2 ^ s + c
 | [], c => by simp [shlW, shlC, val]
 | x :: xs, c => by
  have ih := shlW_val h xs (x / 2 ^ (64 - s))
  have e := Nat.mod_add_div (x * 2 ^ s) WB
  rw [shl_high h] at e
  simp only [shlW, shlC, val_cons, List.length_cons]
  have e2 : WB * (val WB (shlW s (x / 2 ^ (64 - s)) xs) + WB ^ xs.length * shlC s (x / 2 ^ (64 - s)) xs) = WB * (val WB xs * 2 ^ s + x / 2 ^ (64 - s)) := by rw [ih]
  rw [Nat.mul_add, Nat.mul_add] at e2
  rw [Nat.add_mul, Nat.mul_assoc WB, Nat.pow_succ, Nat.mul_comm (WB ^ _) WB, Nat.mul_assoc WB]
  omega
theorem shlW_zero (s : Nat) (xs : List Nat) (h : 0 < xs.length) (c : Nat) : (shlW s c xs)[0]? = some (xs[0] * 2 ^ s % WB + c) := by
 cases xs with
 | nil => simp at h
 | cons x xs => simp [shlW]
theorem shlW_succ (s : Nat) : ∀ (xs : List Nat) (c i : Nat) (h : i + 1 < xs.length), (shlW s c xs)[i + 1]? = some (xs[i + 1] * 2 ^ s % WB + xs[i] / 2 ^ (64 - s))
 | [], _, _, h => by simp at h
 | x :: xs, c, 0, h => by
  simp only [shlW, List.getElem?_cons_succ]
  rw [shlW_zero s xs (by simpa using h)]
  simp
 | x :: xs, c, i + 1, h => by
  simp only [shlW, List.getElem?_cons_succ]
  rw [shlW_succ s xs _ i (by simpa using h)]
  simp
theorem shlC_last (s : Nat) : ∀ (xs : List Nat) (c : Nat) (h : 0 < xs.length), shlC s c xs = xs[xs.length - 1] / 2 ^ (64 - s)
 | [], _, h => by simp at h
 | [x], c, h => by simp [shlC]
 | x :: y :: xs, c, h => by
  have ih := shlC_last s (y :: xs) (x / 2 ^ (64 - s)) (by simp)
  simp only [shlC] at ih ⊢
  rw [ih]
  simp
def shrW (s : Nat) : List Nat → List Nat
 | [] => []
 | [x] => [x / 2 ^ s]
 | x :: y :: r => (x / 2 ^ s + y * 2 ^ (64 - s) % WB) :: shrW s (y :: r)
theorem shrW_length (s : Nat) : ∀ (xs : List Nat), (shrW s xs).length = xs.length
 | [] => rfl
 | [x] => rfl
 | x :: y :: r => by simp [shrW, shrW_length s (y :: r)]
theorem shr_sum_lt {s x y : Nat} (h : s ≤ 64) (hx : x < WB) : x / 2 ^ s + y * 2 ^ (64 - s) % WB < WB := by
 have h1 : x / 2 ^ s < 2 ^ (64 - s) := by
  have := shr_lt (s := 64 - s) (by omega) hx
  rwa [show 64 - (64 - s) = s by omega] at this
 rw [Nat.add_comm]
 exact shl_sum_lt (s := 64 - s) (by omega) h1
theorem shr_or {s x y : Nat} (h : s ≤ 64) (hx : x < WB) : x / 2 ^ s ||| y * 2 ^ (64 - s) % WB = x / 2 ^ s + y * 2 ^ (64 - s) % WB := by
 have h1 : x / 2 ^ s < 2 ^ (64 - s) := by
  have := shr_lt (s := 64 - s) (by omega) hx
  rwa [show 64 - (64 - s) = s by omega] at this
 rw [Nat.or_comm, Nat.add_comm]
 exact shl_or (s := 64 - s) (by omega) h1
theorem shrW_words {s : Nat} (h : s ≤ 64) : ∀ {xs : List Nat}, Words WB xs → Words WB (shrW s xs)
 | [], _ => .nil
 | [x], hx => .one (Nat.lt_of_le_of_lt (Nat.div_le_self _ _) (hx x (by simp)))
 | x :: y :: r, hx => .cons (shr_sum_lt h (hx x (by simp))) (shrW_words h (fun z hz => hx z (by simp only [List.mem_cons] at hz ⊢; exact Or.inr hz)))
theorem shrW_val {s : Nat} (h : s ≤ 64) : ∀ (xs : List Nat), val WB (shrW s xs) = val WB xs / 2 ^ s
 | [] => by simp [shrW, val]
 | [x] => by simp [shrW, val]
 | x :: y :: r => by
  have ih := shrW_val h (y :: r)
  simp only [shrW]
  rw [val_cons, ih, val_cons x]
  generalize hV : val WB (y :: r) = V
  have e1 : (x + WB * V) / 2 ^ s = x / 2 ^ s + 2 ^ (64 - s) * V := by
   conv => lhs; rw [WB_split h, Nat.mul_assoc]
   exact Nat.add_mul_div_left _ _ (two_pos s)
  rw [e1]
  have e2 : V * 2 ^ (64 - s) / WB = V / 2 ^ s := by
   have := shl_high (s := 64 - s) (x := V) (by omega)
   rwa [show 64 - (64 - s) = s by omega] at this
  have e3 : V * 2 ^ (64 - s) % WB = y * 2 ^ (64 - s) % WB := by
   rw [← hV, val_cons, Nat.add_mul, Nat.mul_assoc, Nat.add_mul_mod_self_left]
  have e4 := Nat.mod_add_div (V * 2 ^ (64 - s)) WB
  rw [e2, e3] at e4
  rw [Nat.mul_comm (2 ^ (64 - s)) V]
  omega
theorem shrW_get (s : Nat) : ∀ (xs : List Nat) (i : Nat) (h : i + 1 < xs.length), (shrW s xs)[i]? = some (xs[i] / 2 ^ s + xs[i + 1] * 2 ^ (64 - s) % WB)
 | [], _, h => by simp at h
 | [x], _, h => by simp at h
 | x :: y :: r, 0, h => by simp [shrW]
 | x :: y :: r, i + 1, h => by
  simp only [shrW, List.getElem?_cons_succ]
  rw [shrW_get s (y :: r) i (by simpa using h)]
  simp
theorem shrW_last (s : Nat) : ∀ (xs : List Nat) (h : 0 < xs.length), (shrW s xs)[xs.length - 1]? = some (xs[xs.length - 1] / 2 ^ s)
 | [], h => by simp at h
 | [x], _ => by simp [shrW]
 | x :: y :: r, h => by
  have ih := shrW_last s (y :: r) (by simp)
  simp only [shrW, List.length_cons, Nat.add_sub_cancel] at ih ⊢
  rw [List.getElem?_cons_succ, ih]
  simp
end Go.Proofs.YtgamldefngehlaaGreatDoor
namespace Go.Proofs.YtgamldefngehlaaGreatDoor
theorem guess21 {B d e x1 x0 q : Nat} (h1 : e * d + 1 ≤ B * B) (h2 : B * B ≤ e * d + d) (h3 : B * q ≤ e * x1 + x0) (h4 : e * x1 + x0 < B * q + B) (hx1 : x1 + 1 ≤ d) (hx0 : x0 + 1 ≤ B) (hd : d < B) :
  d * q ≤ x1 * B + x0 ∧ x1 * B + x0 < d * q + B + d := by
 have hB : 0 < B := by omega
 constructor
 ·refine Nat.le_of_mul_le_mul_left (c := B) ?_ hB
  have a1 := Nat.mul_le_mul_left d h3
  have a2 := Nat.mul_le_mul_right x1 h1
  have a3 := Nat.mul_le_mul_right x0 (Nat.le_of_lt hd)
  have e1 : d * (B * q) = B * (d * q) := Nat.mul_left_comm _ _ _
  have e2 : d * (e * x1) = e * d * x1 := by rw [← Nat.mul_assoc, Nat.mul_comm d e]
  have e3 : B * (x1 * B) = B * B * x1 := by rw [Nat.mul_comm x1 B, Nat.mul_assoc]
  rw [Nat.mul_add, e1, e2] at a1
  rw [Nat.add_mul] at a2
  rw [Nat.mul_add, e3]
  omega
 ·refine Nat.lt_of_mul_lt_mul_left (a := B) ?_
  have hd0 : 0 < d := by omega
  have a1 := (Nat.mul_lt_mul_left hd0).2 h4
  have a2 := Nat.mul_le_mul_right x1 h2
  obtain ⟨k, rfl⟩ : ∃ k, B = d + k := ⟨B - d, by omega⟩
  have a3 := Nat.mul_le_mul_left k hx0
  have a4 := Nat.mul_le_mul_left d hx1
  have e1 : d * ((d + k) * q) = (d + k) * (d * q) := Nat.mul_left_comm _ _ _
  have e2 : d * (e * x1) = e * d * x1 := by rw [← Nat.mul_assoc, Nat.mul_comm d e]
  have e3 : (d + k) * (x1 * (d + k)) = (d + k) * (d + k) * x1 := by rw [Nat.mul_comm x1, Nat.mul_assoc]
  simp only [Nat.mul_add, e1, e2] at a1
  rw [Nat.add_mul (e * d) d x1] at a2
  rw [Nat.mul_add (d + k) _ x0, e3]
  simp only [Nat.mul_add, Nat.add_mul] at a1 a2 a3 a4 ⊢
  have c1 : d * k = k * d := Nat.mul_comm _ _
  omega
theorem recip_bounds {B d : Nat} (hd : d < B) (hd0 : 0 < d) : B ≤ (B * B - 1) / d ∧ (B * B - 1) / d * d + 1 ≤ B * B ∧ B * B ≤ (B * B - 1) / d * d + d := by
 have hB : 0 < B * B := Nat.mul_pos (by omega) (by omega)
 have h1 := Nat.div_mul_le_self (B * B - 1) d
 have h2 := Nat.lt_div_mul_add (a := B * B - 1) hd0
 refine ⟨?_, by omega, by omega⟩
 rw [Nat.le_div_iff_mul_le hd0]
 have : B * d + B ≤ B * B := by rw [← Nat.mul_succ]; exact Nat.mul_le_mul_left _ hd
 omega
def recip (d : Nat) : Nat := (WB * WB - 1) / d - WB
theorem div21 {d x1 x0 : Nat} (hd : d < WB) (hd2 : WB ≤ 2 * d) (hx1 : x1 < d) (hx0 : x0 < WB) :
  ∃ q r, q = (recip d * x1 + x0 + x1 * WB) / WB ∧ q < WB ∧ d * q + r = x1 * WB + x0 ∧ r < WB + d := by
 have hd0 : 0 < d := by omega
 obtain ⟨h0, h1, h2⟩ := recip_bounds hd hd0
 have e : recip d * x1 + x0 + x1 * WB = (WB * WB - 1) / d * x1 + x0 := by
  unfold recip
  obtain ⟨k, hk⟩ : ∃ k, (WB * WB - 1) / d = WB + k := ⟨_, (Nat.add_sub_cancel' h0).symm⟩
  rw [hk, Nat.add_sub_cancel_left, Nat.add_mul, Nat.mul_comm x1 WB]
  omega
 rw [e]
 generalize (WB * WB - 1) / d = E at *
 have h3 := Nat.mul_div_le (E * x1 + x0) WB
 have h4 : E * x1 + x0 < WB * ((E * x1 + x0) / WB) + WB := by
  have := Nat.mod_lt (E * x1 + x0) WB_pos
  have := Nat.div_add_mod (E * x1 + x0) WB
  omega
 obtain ⟨g1, g2⟩ := guess21 h1 h2 h3 h4 hx1 hx0 hd
 refine ⟨_, x1 * WB + x0 - d * ((E * x1 + x0) / WB), rfl, ?_, by omega, by omega⟩
 rw [Nat.div_lt_iff_lt_mul WB_pos]
 have a := Nat.mul_le_mul_left E hx1
 rw [Nat.mul_succ] at a
 have b : WB ≤ E := h0
 omega
theorem div21_fix {d X q r : Nat} (hd : d < WB) (hd2 : WB ≤ 2 * d) (h : d * q + r = X) (hr : r < WB + d) :
  X / d = (if WB ≤ r then (if d ≤ r - d then q + 2 else q + 1) else if d ≤ r then q + 1 else q) ∧ X % d = (if WB ≤ r then (if d ≤ r - d then r - d - d else r - d) else if d ≤ r then r - d else r) := by
 have hw := WB_pos
 have key : ∀ k s, d * k + s = X → s < d → X / d = k ∧ X % d = s := fun k s hk hs => by
  subst hk
  rw [Nat.mul_add_div (by omega), Nat.div_eq_of_lt hs, Nat.mul_add_mod, Nat.mod_eq_of_lt hs]
  exact ⟨rfl, rfl⟩
 split
 ·split
  ·exact key _ _ (by rw [Nat.mul_add]; omega) (by omega)
  ·exact key _ _ (by rw [Nat.mul_add]; omega) (by omega)
 ·split
  ·exact key _ _ (by rw [Nat.mul_add]; omega) (by omega)
  ·exact key _ _ h (by omega)
theorem guess_le {B T vt vl top ul qh U V : Nat} (hV : V = vt * T + vl) (hU : U = top * T + ul) (hvl : vl < T) (hB : B ≤ vt) (hq : qh ≤ B) (h : qh * vt ≤ top) : qh ≤ U / V + 1 := by
 have hT : 0 < T := by omega
 have hq' : qh ≤ vt := Nat.le_trans hq hB
 by_cases h0 : qh = 0
 ·rw [h0]; exact Nat.zero_le _
 have hV0 : 0 < V := by
  have : 0 < vt * T := Nat.mul_pos (by omega) hT
  omega
 have h1 : qh * V ≤ U + V := by
  have a1 := Nat.mul_le_mul_right T h
  have a2 := Nat.mul_le_mul_left qh (Nat.le_of_lt hvl)
  have a3 := Nat.mul_le_mul_right T hq'
  rw [Nat.mul_assoc] at a1
  subst hV
  rw [Nat.mul_add]
  omega
 have h2 : qh ≤ (U + V) / V := (Nat.le_div_iff_mul_le hV0).2 h1
 rwa [Nat.add_div_right _ hV0] at h2
theorem guess_lt {T vt vl top ul qh U V : Nat} (hV : V = vt * T + vl) (hU : U = top * T + ul) (hul : ul < T) (h : top < qh * vt) : U / V < qh := by
 have hq : 0 < qh := by
  rcases Nat.eq_zero_or_pos qh with e | e
  ·rw [e] at h; simp at h
  ·exact e
 have hvt : 0 < vt := by
  rcases Nat.eq_zero_or_pos vt with e | e
  ·rw [e] at h; simp at h
  ·exact e
 have hV0 : 0 < V := by
  have : 0 < vt * T := Nat.mul_pos hvt (by omega)
  omega
 rw [Nat.div_lt_iff_lt_mul hV0]
 have a1 := Nat.mul_le_mul_right T h
 rw [Nat.succ_mul, Nat.mul_assoc] at a1
 subst hV
 rw [Nat.mul_add]
 omega
theorem guess_ge {T2 v1 vl top ul U V : Nat} (hV : V = v1 * T2 + vl) (hU : U = top * T2 + ul) (hul : ul < T2) (hv1 : 0 < v1) : U / V ≤ top / v1 := by
 have hV0 : 0 < V := by
  have : 0 < v1 * T2 := Nat.mul_pos hv1 (by omega)
  omega
 rw [Nat.le_div_iff_mul_le hv1]
 have h1 : U / V * V ≤ U := Nat.div_mul_le_self _ _
 generalize U / V = q at *
 subst hV
 rw [Nat.mul_add, ← Nat.mul_assoc] at h1
 have h2 : q * v1 * T2 < (top + 1) * T2 := by rw [Nat.succ_mul]; omega
 have := Nat.lt_of_mul_lt_mul_right h2
 omega
theorem guess_max {B T2 v1 vl top ul U V : Nat} (hV : V = v1 * T2 + vl) (hU : U = top * T2 + ul) (hvl : vl < T2) (hv : B ≤ 2 * v1) (hB : 0 < B) (htop : v1 * B ≤ top) (hlt : U < V * B) : U / V ≤ B - 1 ∧ B - 1 ≤ U / V + 1 := by
 have hT : 0 < T2 := by omega
 have hV0 : 0 < V := by
  have : 0 < v1 * T2 := Nat.mul_pos (by omega) hT
  omega
 constructor
 ·have : U / V < B := (Nat.div_lt_iff_lt_mul hV0).2 (by rwa [Nat.mul_comm])
  omega
 ·have h1 : (B - 1) * V ≤ U + V := by
   have a1 := Nat.mul_le_mul_right T2 htop
   have a2 : V ≤ v1 * T2 + T2 := by omega
   have a3 := Nat.mul_le_mul_left B a2
   have a4 := Nat.mul_le_mul_right T2 hv
   rw [Nat.mul_add] at a3
   have e1 : B * (v1 * T2) = v1 * B * T2 := by rw [← Nat.mul_assoc, Nat.mul_comm B v1]
   rw [Nat.mul_assoc] at a4
   rw [Nat.sub_one_mul]
   omega
  have h2 : B - 1 ≤ (U + V) / V := (Nat.le_div_iff_mul_le hV0).2 h1
  rwa [Nat.add_div_right _ hV0] at h2
end Go.Proofs.YtgamldefngehlaaGreatDoor
namespace Go.Proofs.YtgamldefngehlaaGreatDoor
structure D32 (un u1 y y1 y0 Q q r : Nat) : Prop where
 eq : q * y1 + r = un
 ge : Q ≤ q
 le : q ≤ 4294967297
theorem D32.start {un u1 y y1 y0 : Nat} (hy : y = y1 * 4294967296 + y0) (h0 : y0 < 4294967296) (h1 : u1 < 4294967296) (hn : 2147483648 ≤ y1) (hu : un < y) : D32 un u1 y y1 y0 ((un * 4294967296 + u1) / y) (un / y1) (un % y1) := by
 refine ⟨by rw [Nat.mul_comm]; exact Nat.div_add_mod un y1, ?_, ?_⟩
 ·rw [Nat.le_div_iff_mul_le (by omega)]
  have h := Nat.div_mul_le_self (un * 4294967296 + u1) y
  generalize (un * 4294967296 + u1) / y = Q at *
  subst hy
  rw [Nat.mul_add, ← Nat.mul_assoc] at h
  generalize Q * y1 = p at *
  omega
 ·have : un / y1 < 4294967298 := by
   rw [Nat.div_lt_iff_lt_mul (by omega)]
   omega
  omega
theorem D32.quo_lt {un u1 y : Nat} (h1 : u1 < 4294967296) (hu : un < y) : (un * 4294967296 + u1) / y < 4294967296 := by
 rw [Nat.div_lt_iff_lt_mul (by omega)]; omega
theorem D32.big {un u1 y y1 y0 Q q r : Nat} (h : D32 un u1 y y1 y0 Q q r) (hQ : Q < 4294967296) (hq : 4294967296 ≤ q) : D32 un u1 y y1 y0 Q (q - 1) (r + y1) := by
 obtain ⟨h1, h2, h3⟩ := h
 obtain ⟨k, rfl⟩ : ∃ k, q = k + 1 := ⟨q - 1, by omega⟩
 rw [Nat.succ_mul] at h1
 exact ⟨by simp only [Nat.add_sub_cancel]; omega, by omega, by omega⟩
theorem D32.over {un u1 y y1 y0 q r : Nat} (hy : y = y1 * 4294967296 + y0) (h : D32 un u1 y y1 y0 ((un * 4294967296 + u1) / y) q r) (hp : 4294967296 * r + u1 < q * y0) : D32 un u1 y y1 y0 ((un * 4294967296 + u1) / y) (q - 1) (r + y1) := by
 obtain ⟨h1, h2, h3⟩ := h
 have hq : 0 < q := by
  rcases Nat.eq_zero_or_pos q with e | e
  ·rw [e] at hp; simp at hp
  ·exact e
 have hy0 : 0 < y := by
  rcases Nat.eq_zero_or_pos y0 with e | e
  ·rw [e] at hp; simp at hp
  ·omega
 have hlt : (un * 4294967296 + u1) / y < q := by
  rw [Nat.div_lt_iff_lt_mul hy0]
  subst hy
  rw [Nat.mul_add, ← Nat.mul_assoc]
  generalize q * y1 = a at *
  generalize q * y0 = p at *
  omega
 obtain ⟨k, rfl⟩ : ∃ k, q = k + 1 := ⟨q - 1, by omega⟩
 rw [Nat.succ_mul] at h1
 exact ⟨by simp only [Nat.add_sub_cancel]; omega, by omega, by omega⟩
theorem D32.exact_ {un u1 y y1 y0 q r : Nat} (hy : y = y1 * 4294967296 + y0) (hy0 : 0 < y) (h : D32 un u1 y y1 y0 ((un * 4294967296 + u1) / y) q r) (hp : q * y0 ≤ 4294967296 * r + u1) : q = (un * 4294967296 + u1) / y := by
 obtain ⟨h1, h2, h3⟩ := h
 refine Nat.le_antisymm ?_ h2
 rw [Nat.le_div_iff_mul_le hy0]
 subst hy
 rw [Nat.mul_add, ← Nat.mul_assoc]
 generalize q * y1 = a at *
 generalize q * y0 = p at *
 omega
theorem d32_aux {q y0 r u1 b : Nat} (hq : q ≤ b) (hy : y0 < b) (hr : b ≤ r) : q * y0 ≤ b * r + u1 := by
 have h1 := Nat.mul_le_mul_right y0 hq
 have h2 := Nat.mul_le_mul_left b (show y0 ≤ r by omega)
 omega
theorem D32.exact_break {un u1 y y1 y0 q r : Nat} (hy : y = y1 * 4294967296 + y0) (hy0 : 0 < y) (hyl : y0 < 4294967296) (h : D32 un u1 y y1 y0 ((un * 4294967296 + u1) / y) q r) (hq : q ≤ 4294967296) (hr : 4294967296 ≤ r) : q = (un * 4294967296 + u1) / y := by
 refine h.exact_ hy hy0 ?_
 exact d32_aux hq hyl hr
theorem two_digits_aux {X b y R Q l1 l0 : Nat} (hy : 0 < y) (e : X = y * (Q * b) + (R * b + l0)) : X / y = Q * b + (R * b + l0) / y ∧ X % y = (R * b + l0) % y := by
 rw [e, Nat.mul_add_div hy, Nat.mul_add_mod]
 exact ⟨rfl, rfl⟩
theorem two_digits {hi lo y Q R l1 l0 : Nat} (hy : 0 < y) (hl : lo = l1 * 4294967296 + l0) (hQ : y * Q + R = hi * 4294967296 + l1) : (hi * WB + lo) / y = Q * 4294967296 + (R * 4294967296 + l0) / y ∧
  (hi * WB + lo) % y = (R * 4294967296 + l0) % y := by
 refine two_digits_aux (l1 := 0) hy ?_
 rw [WB_eq, ← Nat.mul_assoc, hl]
 omega
end Go.Proofs.YtgamldefngehlaaGreatDoor
namespace Go.Proofs.YtgamldefngehlaaGreatDoor
def Coseq (ev : Bool) (x y x1 x2 u1 u2 v1 v2 : Nat) : Prop :=
 if ev = true then x1 + u1 * x = v1 * y ∧ x2 + v2 * y = u2 * x else x1 + v1 * y = u1 * x ∧ x2 + u2 * x = v2 * y
def Det (ev : Bool) (u1 u2 v1 v2 : Nat) : Prop := if ev = true then u2 * v1 = u1 * v2 + 1 else u1 * v2 = u2 * v1 + 1
theorem Coseq.back {ev : Bool} {x y x1 x2 u1 u2 v1 v2 : Nat} (h : Coseq ev x y x1 x2 u1 u2 v1 v2) (hd : Det ev u1 u2 v1 v2) : x = v2 * x1 + v1 * x2 ∧ y = u2 * x1 + u1 * x2 := by
 unfold Coseq at h
 unfold Det at hd
 cases ev
 ·simp only [Bool.false_eq_true, if_false] at h hd
  obtain ⟨h1, h2⟩ := h
  constructor
  ·have a1 : v2 * (x1 + v1 * y) = v2 * (u1 * x) := by rw [h1]
   have a2 : v1 * (x2 + u2 * x) = v1 * (v2 * y) := by rw [h2]
   have a3 : u1 * v2 * x = (u2 * v1 + 1) * x := by rw [hd]
   have e1 : v2 * (u1 * x) = u1 * v2 * x := by rw [← Nat.mul_assoc, Nat.mul_comm v2 u1]
   have e2 : v1 * (u2 * x) = u2 * v1 * x := by rw [← Nat.mul_assoc, Nat.mul_comm v1 u2]
   have e3 : v2 * (v1 * y) = v1 * (v2 * y) := Nat.mul_left_comm _ _ _
   rw [Nat.mul_add] at a1 a2
   rw [Nat.add_mul, Nat.one_mul] at a3
   omega
  ·have a1 : u2 * (x1 + v1 * y) = u2 * (u1 * x) := by rw [h1]
   have a2 : u1 * (x2 + u2 * x) = u1 * (v2 * y) := by rw [h2]
   have a3 : u1 * v2 * y = (u2 * v1 + 1) * y := by rw [hd]
   have e1 : u1 * (v2 * y) = u1 * v2 * y := by rw [← Nat.mul_assoc]
   have e2 : u2 * (v1 * y) = u2 * v1 * y := by rw [← Nat.mul_assoc]
   have e3 : u2 * (u1 * x) = u1 * (u2 * x) := Nat.mul_left_comm _ _ _
   rw [Nat.mul_add] at a1 a2
   rw [Nat.add_mul, Nat.one_mul] at a3
   omega
 ·simp only [if_true] at h hd
  obtain ⟨h1, h2⟩ := h
  constructor
  ·have a1 : v2 * (x1 + u1 * x) = v2 * (v1 * y) := by rw [h1]
   have a2 : v1 * (x2 + v2 * y) = v1 * (u2 * x) := by rw [h2]
   have a3 : u2 * v1 * x = (u1 * v2 + 1) * x := by rw [hd]
   have e1 : v2 * (u1 * x) = u1 * v2 * x := by rw [← Nat.mul_assoc, Nat.mul_comm v2 u1]
   have e2 : v1 * (u2 * x) = u2 * v1 * x := by rw [← Nat.mul_assoc, Nat.mul_comm v1 u2]
   have e3 : v2 * (v1 * y) = v1 * (v2 * y) := Nat.mul_left_comm _ _ _
   rw [Nat.mul_add] at a1 a2
   rw [Nat.add_mul, Nat.one_mul] at a3
   omega
  ·have a1 : u2 * (x1 + u1 * x) = u2 * (v1 * y) := by rw [h1]
   have a2 : u1 * (x2 + v2 * y) = u1 * (u2 * x) := by rw [h2]
   have a3 : u2 * v1 * y = (u1 * v2 + 1) * y := by rw [hd]
   have e1 : u1 * (v2 * y) = u1 * v2 * y := by rw [← Nat.mul_assoc]
   have e2 : u2 * (v1 * y) = u2 * v1 * y := by rw [← Nat.mul_assoc]
   have e3 : u2 * (u1 * x) = u1 * (u2 * x) := Nat.mul_left_comm _ _ _
   rw [Nat.mul_add] at a1 a2
   rw [Nat.add_mul, Nat.one_mul] at a3
   omega
theorem Coseq.gcd {ev : Bool} {x y x1 x2 u1 u2 v1 v2 : Nat} (h : Coseq ev x y x1 x2 u1 u2 v1 v2) (hd : Det ev u1 u2 v1 v2) : Nat.gcd x1 x2 = Nat.gcd x y := by
 obtain ⟨b1, b2⟩ := h.back hd
 refine Nat.dvd_antisymm ?_ ?_
 ·have d1 := Nat.gcd_dvd_left x1 x2
  have d2 := Nat.gcd_dvd_right x1 x2
  refine Nat.dvd_gcd ?_ ?_
  ·rw [b1]; exact Nat.dvd_add (Nat.dvd_mul_left_of_dvd d1 _) (Nat.dvd_mul_left_of_dvd d2 _)
  ·rw [b2]; exact Nat.dvd_add (Nat.dvd_mul_left_of_dvd d1 _) (Nat.dvd_mul_left_of_dvd d2 _)
 ·have d1 := Nat.gcd_dvd_left x y
  have d2 := Nat.gcd_dvd_right x y
  unfold Coseq at h
  cases ev
  ·simp only [Bool.false_eq_true, if_false] at h
   refine Nat.dvd_gcd ?_ ?_
   ·rw [show x1 = u1 * x - v1 * y by omega]; exact Nat.dvd_sub (Nat.dvd_mul_left_of_dvd d1 _) (Nat.dvd_mul_left_of_dvd d2 _)
   ·rw [show x2 = v2 * y - u2 * x by omega]; exact Nat.dvd_sub (Nat.dvd_mul_left_of_dvd d2 _) (Nat.dvd_mul_left_of_dvd d1 _)
  ·simp only [if_true] at h
   refine Nat.dvd_gcd ?_ ?_
   ·rw [show x1 = v1 * y - u1 * x by omega]; exact Nat.dvd_sub (Nat.dvd_mul_left_of_dvd d2 _) (Nat.dvd_mul_left_of_dvd d1 _)
   ·rw [show x2 = u2 * x - v2 * y by omega]; exact Nat.dvd_sub (Nat.dvd_mul_left_of_dvd d1 _) (Nat.dvd_mul_left_of_dvd d2 _)
theorem Coseq.step {ev : Bool} {x y x1 x2 u1 u2 v1 v2 q r : Nat} (h : Coseq ev x y x1 x2 u1 u2 v1 v2) (hq : x1 = q * x2 + r) : Coseq (!ev) x y x2 r u2 (u1 + q * u2) v2 (v1 + q * v2) := by
 unfold Coseq at h ⊢
 subst hq
 cases ev
 ·simp only [Bool.false_eq_true, if_false, Bool.not_false, if_true] at h ⊢
  obtain ⟨h1, h2⟩ := h
  refine ⟨h2, ?_⟩
  have a : q * (x2 + u2 * x) = q * (v2 * y) := by rw [h2]
  rw [Nat.mul_add] at a
  rw [Nat.add_mul, Nat.add_mul, Nat.mul_assoc, Nat.mul_assoc]
  omega
 ·simp only [if_true, Bool.not_true, Bool.false_eq_true, if_false] at h ⊢
  obtain ⟨h1, h2⟩ := h
  refine ⟨h2, ?_⟩
  have a : q * (x2 + v2 * y) = q * (u2 * x) := by rw [h2]
  rw [Nat.mul_add] at a
  rw [Nat.add_mul, Nat.add_mul, Nat.mul_assoc, Nat.mul_assoc]
  omega
theorem Det.step {ev : Bool} {u1 u2 v1 v2 q : Nat} (h : Det ev u1 u2 v1 v2) : Det (!ev) u2 (u1 + q * u2) v2 (v1 + q * v2) := by
 unfold Det at h ⊢
 have e : q * u2 * v2 = u2 * (q * v2) := by rw [Nat.mul_comm q u2, Nat.mul_assoc]
 cases ev
 ·simp only [Bool.false_eq_true, if_false, Bool.not_false, if_true] at h ⊢
  rw [Nat.add_mul, Nat.mul_add, e]
  omega
 ·simp only [if_true, Bool.not_true, Bool.false_eq_true, if_false] at h ⊢
  rw [Nat.add_mul, Nat.mul_add, e]
  omega
theorem collins {ev : Bool} {K a b al be a1 a2 u1 u2 v1 v2 : Nat} (h : Coseq ev a b a1 a2 u1 u2 v1 v2) (hal : al < K) (hbe : be < K) (hu1 : u1 ≤ v1) (hu2 : u2 ≤ v2) (hv : 1 ≤ v2) (h1 : v2 ≤ a2) (h2 : v1 + v2 + a2 ≤ a1) :
  ∃ A1 A2, Coseq ev (a * K + al) (b * K + be) A1 A2 u1 u2 v1 v2 ∧ A2 < A1 := by
 unfold Coseq at h ⊢
 have p1 := Nat.mul_le_mul_left v1 (Nat.le_of_lt hbe)
 have p2 := Nat.mul_le_mul_left v2 (Nat.le_of_lt hbe)
 have p3 := Nat.mul_le_mul_left u1 (Nat.le_of_lt hal)
 have p4 := Nat.mul_le_mul_left u2 (Nat.le_of_lt hal)
 have p5 := Nat.mul_le_mul_right K hu1
 have p6 := Nat.mul_le_mul_right K hu2
 have p7 := Nat.mul_le_mul_right K h1
 have p8 := Nat.mul_le_mul_right K h2
 have s2 : v2 * be < v2 * K := (Nat.mul_lt_mul_left (by omega)).2 hbe
 have s4 : u2 * al + v2 ≤ u2 * K + v2 := by omega
 rw [Nat.add_mul, Nat.add_mul] at p8
 cases ev
 ·simp only [Bool.false_eq_true, if_false] at h ⊢
  obtain ⟨g1, g2⟩ := h
  have e1 : (a1 + v1 * b) * K = u1 * a * K := by rw [g1]
  have e2 : (a2 + u2 * a) * K = v2 * b * K := by rw [g2]
  rw [Nat.add_mul, Nat.mul_assoc, Nat.mul_assoc] at e1 e2
  refine ⟨u1 * (a * K + al) - v1 * (b * K + be), v2 * (b * K + be) - u2 * (a * K + al), ?_, ?_⟩
  ·simp only [Nat.mul_add]
   exact ⟨by omega, by omega⟩
  ·simp only [Nat.mul_add]
   omega
 ·simp only [if_true] at h ⊢
  obtain ⟨g1, g2⟩ := h
  have e1 : (a1 + u1 * a) * K = v1 * b * K := by rw [g1]
  have e2 : (a2 + v2 * b) * K = u2 * a * K := by rw [g2]
  rw [Nat.add_mul, Nat.mul_assoc, Nat.mul_assoc] at e1 e2
  have hK : 0 < K := by omega
  have s : u2 * al + u1 * al < v1 * K + v2 * K := by
   by_cases h0 : u2 = 0
   ·subst h0
    have : 0 < v2 * K := Nat.mul_pos (by omega) hK
    omega
   ·have : u2 * al < u2 * K := (Nat.mul_lt_mul_left (by omega)).2 hal
    omega
  refine ⟨v1 * (b * K + be) - u1 * (a * K + al), u2 * (a * K + al) - v2 * (b * K + be), ?_, ?_⟩
  ·simp only [Nat.mul_add]
   exact ⟨by omega, by omega⟩
  ·simp only [Nat.mul_add]
   omega
def LehOut (A B u0 u1 v0 v1 : Nat) (ev : Bool) : Prop :=
 v0 ≠ 0 → ∃ A1 A2, Coseq (!ev) A B A1 A2 u0 u1 v0 v1 ∧ A2 < A1 ∧ A1 ≤ B ∧ Nat.gcd A1 A2 = Nat.gcd A B
structure Leh (A B K u0 u1 u2 v0 v1 v2 a1 a2 : Nat) (ev : Bool) : Prop where
 co : Coseq ev (A / K) (B / K) a1 a2 u1 u2 v1 v2
 det : Det ev u1 u2 v1 v2
 sum : v2 * a1 + v1 * a2 = A / K
 le : a2 ≤ a1
 one : 1 ≤ v2
 form : (u0 = 0 ∧ v0 = 0 ∧ u1 = 1 ∧ u2 = 0 ∧ v1 = 0 ∧ v2 = 1 ∧ ev = false) ∨ (u1 ≤ v1 ∧ u2 ≤ v2 ∧ (if ev = true then v1 * B ≤ u1 * A + B else u1 * A ≤ v1 * B + B))
 bd : u0 < WB ∧ u1 < WB ∧ u2 < WB ∧ v0 < WB ∧ v1 < WB ∧ v2 < WB
 out : LehOut A B u0 u1 v0 v1 ev
theorem Leh.start {A B K : Nat} (h : B ≤ A) : Leh A B K 0 1 0 0 0 1 (A / K) (B / K) false :=
 ⟨by simp [Coseq], by simp [Det], by simp, Nat.div_le_div_right h, Nat.le_refl _, .inl ⟨rfl, rfl, rfl, rfl, rfl, rfl, rfl⟩, by rw [WB_eq]; omega, fun h => absurd rfl h⟩
theorem Leh.step {A B K u0 u1 u2 v0 v1 v2 a1 a2 : Nat} {ev : Bool} (h : Leh A B K u0 u1 u2 v0 v1 v2 a1 a2 ev) (hK : 0 < K) (hw : A / K < WB) (h1 : v2 ≤ a2) (h2 : v1 + v2 + a2 ≤ a1) :
  Leh A B K u1 u2 (u1 + a1 / a2 * u2) v1 v2 (v1 + a1 / a2 * v2) a2 (a1 % a2) (!ev) := by
 obtain ⟨hco, hdet, hsum, hle, hone, hform, ⟨b0, b1, b2, b3, b4, b5⟩, hout⟩ := h
 have ha2 : 0 < a2 := by omega
 have hq : 1 ≤ a1 / a2 := (Nat.le_div_iff_mul_le ha2).2 (by omega)
 have hdm : a1 = a1 / a2 * a2 + a1 % a2 := by rw [Nat.mul_comm]; exact (Nat.div_add_mod a1 a2).symm
 have hmod := Nat.mod_lt a1 ha2
 have hco' := hco.step hdm
 have hdet' := hdet.step (q := a1 / a2)
 have hsum' : (v1 + a1 / a2 * v2) * a2 + v2 * (a1 % a2) = A / K := by
  rw [← hsum]
  conv => rhs; rw [hdm]
  rw [Nat.add_mul, Nat.mul_add, ← Nat.mul_assoc v2, Nat.mul_comm v2 (a1 / a2)]
  omega
 have hv2 : v1 + a1 / a2 * v2 < WB := by
  have := Nat.le_mul_of_pos_right (v1 + a1 / a2 * v2) ha2
  omega
 have hone' : 1 ≤ v1 + a1 / a2 * v2 := by
  have : 1 * 1 ≤ a1 / a2 * v2 := Nat.mul_le_mul hq hone
  omega
 rcases hform with ⟨rfl, rfl, rfl, rfl, rfl, rfl, rfl⟩ | ⟨f1, f2, f5⟩
 ·exact ⟨hco', hdet', hsum', Nat.le_of_lt hmod, hone', .inr ⟨by omega, by omega, by simp⟩, ⟨b1, b2, by simp [WB_eq], b4, b5, hv2⟩, fun h => absurd rfl h⟩
 ·have hm := Nat.mul_le_mul_left (a1 / a2) f2
  have hA : A = A / K * K + A % K := by rw [Nat.mul_comm]; exact (Nat.div_add_mod A K).symm
  have hB : B = B / K * K + B % K := by rw [Nat.mul_comm]; exact (Nat.div_add_mod B K).symm
  obtain ⟨A1, A2, hC, hlt⟩ := collins hco (Nat.mod_lt A hK) (Nat.mod_lt B hK) f1 f2 hone h1 h2
  rw [← hA, ← hB] at hC
  have hA1 : A1 ≤ B := by
   have hC' := hC
   unfold Coseq at hC'
   cases ev
   ·simp only [Bool.false_eq_true, if_false] at hC' f5
    omega
   ·simp only [if_true] at hC' f5
    omega
  refine ⟨hco', hdet', hsum', Nat.le_of_lt hmod, hone', .inr ⟨f2, by omega, ?_⟩, ⟨b1, b2, by omega, b4, b5, hv2⟩, fun _ => ⟨A1, A2, by rw [Bool.not_not]; exact hC, hlt, hA1, hC.gcd hdet⟩⟩
  have hC' := hC
  unfold Coseq at hC'
  cases ev
  ·simp only [Bool.false_eq_true, if_false, Bool.not_false, if_true] at hC' ⊢
   omega
  ·simp only [if_true, Bool.not_true, Bool.false_eq_true, if_false] at hC' ⊢
   omega
end Go.Proofs.YtgamldefngehlaaGreatDoor
