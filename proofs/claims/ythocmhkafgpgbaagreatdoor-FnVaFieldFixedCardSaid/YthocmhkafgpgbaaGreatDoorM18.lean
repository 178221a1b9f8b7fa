/- Parts of the walk. -/
import Derived.Test.YthocmhkafgpgbaaGreatDoorM17
set_option linter.unusedVariables false
set_option linter.unusedSimpArgs false
namespace Go.Proofs.YthocmhkafgpgbaaGreatDoor
theorem leB_get (k : Nat) : ∀ (z : Int) (j : Nat) (h : j < (leB z k).length), (leB z k)[j] = z / (256 : Int) ^ j % 256 := by
 induction k with
 | zero => intro z j h; simp at h
 | succ k ih =>
  intro z j h
  cases j with
  | zero => simp [leB]
  | succ j =>
   have h2 : j < (leB (z / 256) k).length := by simp at h ⊢; omega
   have e : (leB z (k + 1))[j + 1] = (leB (z / 256) k)[j] := by simp [leB]
   rw [e, ih (z / 256) j h2, Int.pow_succ, Int.mul_comm, Int.ediv_ediv_of_nonneg (by omega)]
theorem WB_pow (t : Nat) : WB ^ t = 256 ^ (8 * t) := by rw [Nat.pow_mul, WB_eq]
theorem digs_get (n : Nat) : ∀ (t : Nat) (h : t < (digs WB n).length), (digs WB n)[t] = n / WB ^ t % WB := by
 intro t
 induction t generalizing n with
 | zero =>
  intro h
  have h0 : n ≠ 0 := fun e => by subst e; rw [digs_zero] at h; simp at h
  simp [digs_pos WB_one h0]
 | succ t ih =>
  intro h
  have h0 : n ≠ 0 := fun e => by subst e; rw [digs_zero] at h; simp at h
  have e := digs_pos WB_one h0
  have h2 : t < (digs WB (n / WB)).length := by rw [e] at h; simpa using h
  have e2 : (digs WB n)[t + 1] = (digs WB (n / WB))[t] := by simp [e]
  rw [e2, ih (n / WB) h2, Nat.div_div_eq_div_mul, Nat.pow_succ, Nat.mul_comm WB]
theorem word_byte (n t i : Nat) (hi : i < 8) : n / WB ^ t % WB / 256 ^ i % 256 = n / 256 ^ (8 * t + i) % 256 := by
 have e : WB = 256 ^ i * (256 * 256 ^ (7 - i)) := by
  rw [← Nat.pow_succ', ← Nat.pow_add, WB_eq, show i + (7 - i + 1) = 8 by omega]
 rw [e, Nat.mod_mul_right_div_self, Nat.mod_mul_right_mod, ← e, WB_pow, Nat.div_div_eq_div_mul, ← Nat.pow_add]
theorem leB_words (n size : Nat) : ∀ t (h : t < (digs WB n).length) i, i < 8 → ∀ h2 : 8 * t + i < (leB (n : Int) size).length, (leB (n : Int) size)[8 * t + i] = (((digs WB n)[t] / 256 ^ i % 256 : Nat) : Int) := by
 intro t h i hi h2
 rw [leB_get, digs_get n t h, word_byte n t i hi]
 simp
theorem leB_rest (n size : Nat) : ∀ j (h : j < (leB (n : Int) size).length), 8 * (digs WB n).length ≤ j → (leB (n : Int) size)[j] = 0 := by
 intro j h hj
 rw [leB_get]
 have h1 := (digs_length_le WB_one (n := n) (k := (digs WB n).length)).1 (Nat.le_refl _)
 rw [WB_pow] at h1
 have h2 : n < 256 ^ j := Nat.lt_of_lt_of_le h1 (Nat.pow_le_pow_right (by omega) hj)
 have : (n : Int) / (256 : Int) ^ j = ((n / 256 ^ j : Nat) : Int) := by simp
 rw [this, Nat.div_eq_of_lt h2]
 rfl
theorem val_inv (xs : List Nat) (h : Words WB xs) : val WB (invW xs) + val WB xs + 1 = WB ^ xs.length := by
 induction xs with
 | nil => simp [invW, val]
 | cons d xs ih =>
  have hd := h d (List.mem_cons_self ..)
  have := ih (fun x hx => h x (List.mem_cons_of_mem _ hx))
  simp only [invW, List.map_cons, val, List.length_cons, Nat.pow_succ] at this ⊢
  have e : WB ^ xs.length * WB = WB * (val WB (List.map (fun d => WB - 1 - d) xs) + val WB xs + 1) := by rw [this, Nat.mul_comm]
  rw [e, Nat.mul_add, Nat.mul_add]
  have := WB_pos
  omega
theorem neg_words (n size : Nat) (hs : size = 8 ∨ size = 12 ∨ size = 16) (hn0 : n ≠ 0) (hn : n < 256 ^ (size - 1)) : (digs WB (val WB (invW (digs WB n)) + 1)).length = (digs WB n).length ∧ (digs WB n).length ≤ 2 ∧ val WB (invW (digs WB n)) + 1 + n = WB ^ (digs WB n).length := by
 have hv := val_inv (digs WB n) (words_digs WB_one n)
 rw [val_digs WB_one] at hv
 have hn15 : n < 256 ^ 15 := Nat.lt_of_lt_of_le hn (Nat.pow_le_pow_right (by omega) (by omega))
 have hL2 : (digs WB n).length ≤ 2 := (digs_length_le WB_one).2 (Nat.lt_of_lt_of_le hn15 (by rw [WB_eq]; decide))
 have h0 := (digs_len_pos WB_one (n := n)).2 hn0
 generalize hM : val WB (invW (digs WB n)) + 1 = M at *
 have hMn : M + n = WB ^ (digs WB n).length := by omega
 refine ⟨?_, hL2, hMn⟩
 have hle : (digs WB M).length ≤ (digs WB n).length := (digs_length_le WB_one).2 (by omega)
 have hge : ¬ (digs WB M).length ≤ (digs WB n).length - 1 := by
  rw [digs_length_le WB_one]
  have h1 : n < WB ^ (digs WB n).length := (digs_length_le WB_one).1 (Nat.le_refl _)
  rcases (show (digs WB n).length = 1 ∨ (digs WB n).length = 2 by omega) with e | e
  ·rw [e] at hMn h1 ⊢
   simp at hMn h1 ⊢
   omega
  ·rw [e] at hMn h1 ⊢
   have e3 : WB ^ 2 = 340282366920938463463374607431768211456 := by rw [WB_eq]
   have e4 : WB ^ (2 - 1) = 18446744073709551616 := by rw [WB_eq]
   have e5 : 256 ^ 15 = 1329227995784915872903807060280344576 := by decide
   omega
 omega
theorem leB_nwords (n size : Nat) (hs : size = 8 ∨ size = 12 ∨ size = 16) (hn0 : n ≠ 0) (hn : n < 256 ^ (size - 1)) :
  ∀ t (h : t < (digs WB (val WB (invW (digs WB n)) + 1)).length) i, i < 8 → ∀ h2 : 8 * t + i < (leB (-(n : Int)) size).length, (leB (-(n : Int)) size)[8 * t + i] = (((digs WB (val WB (invW (digs WB n)) + 1))[t] / 256 ^ i % 256 : Nat) : Int) := by
 intro t h i hi h2
 obtain ⟨hl, hL2, hM⟩ := neg_words n size hs hn0 hn
 rw [leB_get, digs_get _ t h, word_byte _ t i hi]
 rw [hl] at h
 generalize val WB (invW (digs WB n)) + 1 = M at *
 generalize (digs WB n).length = L at *
 rw [WB_pow] at hM
 have hj : 8 * t + i + 1 ≤ 8 * L := by omega
 generalize 8 * t + i = j at *
 obtain ⟨e, he⟩ : ∃ e, 8 * L = j + 1 + e := ⟨8 * L - (j + 1), by omega⟩
 rw [he] at hM
 rw [show 256 ^ (j + 1 + e) = 256 ^ e * 256 * 256 ^ j by rw [Nat.pow_add, Nat.pow_succ]; ac_rfl] at hM
 have hP0 : 256 ^ j ≠ 0 := by have := Nat.pow_pos (n := j) (show 0 < 256 by omega); omega
 rw [show (256 : Int) ^ j = ((256 ^ j : Nat) : Int) from (Int.natCast_pow 256 j).symm]
 generalize 256 ^ j = P at *
 generalize 256 ^ e = Q at *
 have h3 : ((M + n : Nat) : Int) = ((Q * 256 * P : Nat) : Int) := by rw [hM]
 rw [Int.natCast_mul, Int.natCast_add] at h3
 have e1 : -(n : Int) = (M : Int) + (-((Q * 256 : Nat) : Int)) * (P : Int) := by rw [Int.neg_mul]; omega
 rw [e1, Int.add_mul_ediv_right _ _ (by omega)]
 have e2 : (M : Int) / (P : Int) = ((M / P : Nat) : Int) := by simp
 rw [e2]
 generalize M / P = m
 omega
theorem leB_nrest (n size : Nat) (hs : size = 8 ∨ size = 12 ∨ size = 16) (hn0 : n ≠ 0) (hn : n < 256 ^ (size - 1)) :
  ∀ j (h : j < (leB (-(n : Int)) size).length), 8 * (digs WB (val WB (invW (digs WB n)) + 1)).length ≤ j → (leB (-(n : Int)) size)[j] = 255 := by
 intro j h hj
 obtain ⟨hl, hL2, hM⟩ := neg_words n size hs hn0 hn
 rw [hl] at hj
 rw [leB_get]
 have h1 : n < WB ^ (digs WB n).length := (digs_length_le WB_one).1 (Nat.le_refl _)
 rw [WB_pow] at h1
 have h2 : n < 256 ^ j := Nat.lt_of_lt_of_le h1 (Nat.pow_le_pow_right (by omega) hj)
 rw [show (256 : Int) ^ j = ((256 ^ j : Nat) : Int) from (Int.natCast_pow 256 j).symm]
 generalize 256 ^ j = P at *
 have e : -(n : Int) / (P : Int) = -1 := by
  rw [show -(n : Int) = ((P : Int) - n) + (-1) * (P : Int) by omega, Int.add_mul_ediv_right _ _ (by omega), Int.ediv_eq_zero_of_lt (by omega) (by omega)]
  rfl
 rw [e]
 rfl
end Go.Proofs.YthocmhkafgpgbaaGreatDoor
namespace Go.Proofs.YthocmhkafgpgbaaGreatDoor
open Go.RowKit
def zOf (s : Bool) (n : Nat) : Int := if s = true then -(n : Int) else n
theorem encFixed_any (w0 w : World) (base E S W gm N size : Nat) (tr v : Value) (xs : List Int) (s : Bool) (h : EncAt w0 base E S W tr xs) (hb : Keeps (fun _ => False) w0 w) (hm : IntAt w w0.heap.size gm 0 (decide (N ≠ 0) && s) v N) (hgm : w0.heap.size ≤ gm) (hsz : size = 8 ∨ size = 12 ∨ size = 16) (hN : N < 256 ^ (size - 1)) (hxl : xs.length ≤ 900000) :
  Calls Tryz.prog 232 #[.pointer (some ⟨E, 0, none⟩), .pointer (some ⟨gm, 0, none⟩), .int .i64 size] w fun e w' => e = .returned (.tuple #[]) ∧ EncAt w' base E S W tr (xs ++ leB (zOf s N) size) ∧ Below base w0 w' := by
 have hl : (digs WB N).length ≤ 2 := (digs_length_le WB_one).2 (Nat.lt_of_lt_of_le hN (by rw [WB_eq]; rcases hsz with e | e | e <;> subst e <;> decide))
 by_cases e : N ≠ 0 ∧ s = true
 ·obtain ⟨h0, rfl⟩ := e
  rw [show (decide (N ≠ 0) && true) = true by simp [h0]] at hm
  obtain ⟨h1, -, -⟩ := neg_words N size hsz h0 hN
  exact encFixed_neg w0 w base E S W gm N size tr v xs h hb hm h0 hgm hsz _ (leB_length _ _) (leB_nwords N size hsz h0 hN) (leB_nrest N size hsz h0 hN) (by omega) (by omega) hxl
 ·have e1 : (decide (N ≠ 0) && s) = false := by
   cases s
   ·simp
   ·simp only [and_true] at e; simp [e]
  have e2 : zOf s N = (N : Int) := by
   unfold zOf
   cases s
   ·rfl
   ·simp only [and_true, Decidable.not_not] at e; subst e; rfl
  rw [e1] at hm
  rw [e2]
  exact encFixed_pos w0 w base E S W gm N size tr v xs h hb hm hgm hsz _ (leB_length _ _) (leB_words N size) (leB_rest N size) (by omega) hxl
@[go_sem] theorem as_r_r (v : Value) (w : World) : (Instr.typeAssert (.iface 98 v) 20 98 true).run Tryz.prog w = .ok (.tuple #[v, .bool true]) w := by kernel_rfl
set_option maxRecDepth 100000 in
theorem encodeFixed_any (w : World) (base E S W br gr n d N sc size : Nat) (tr v u : Value) (xs : List Int) (s : Bool) (h : EncAt w base E S W tr xs) (hr : RatAt w br gr s false v u n d) (hsc : sc ≤ 15)
  (hd : d ≠ 0) (hdW : d < WB) (hN : n * 10 ^ sc = N * d) (hln : (digs WB n).length < 40) (hle : (digs WB (n * 10 ^ sc)).length ≤ 1000) (hg : Thr w) (hGL : GL ≤ w.heap.size) (hsz : size = 8 ∨ size = 12 ∨ size = 16) (hNs : N < 256 ^ (size - 1)) (hxl : xs.length ≤ 900000) :
  Calls Tryz.prog 162 #[.pointer (some ⟨E, 0, none⟩), .iface 98 (.pointer (some ⟨gr, 0, none⟩)), .int .i64 size, .int .i64 38, .int .i64 sc] w fun e w' => e = .returned .nilIface ∧ EncAt w' base E S W tr (xs ++ leB (zOf s N) size) ∧ Below base w w' := by
 have hlt : N < 10 ^ 38 := Nat.lt_of_lt_of_le hNs (Nat.le_trans (Nat.pow_le_pow_right (by omega) (show size - 1 ≤ 15 by omega)) (by decide))
 have k0 := (Keeps.refl (fun _ => False) w).alloc (.cells #[.bool false, .slice none 0 0] 143)
 have hR := Lib.hid (ratToFixed_any (w.alloc (.cells #[.bool false, .slice none 0 0] 143)) br gr w.heap.size n d N sc s false v u (hr.kept k0 (fun h => h) (fun _ _ h => h) (fun _ _ h => h)) (newAt _ _) (by have := hr.num.known.lt; omega) hsc hd hdW hN hlt hln hle (hg.kept k0 (fun _ _ h => h)) (Nat.le_trans hGL k0.size) hGL)
 have hF := Lib.hid (fun (w2 : World) (v' : Value) (hm : IntAt w2 w.heap.size w.heap.size 0 (decide (N ≠ 0) && s) v' N) (hk : Keeps (fun _ => False) w w2) => encFixed_any w w2 base E S W w.heap.size N size tr v' xs s h hk hm (Nat.le_refl _) hsz hNs hxl)
 have k0 := Lib.hid k0
 clear h hr hd hdW hN hlt hln hle hg hGL hNs hxl
 go_enter Tryz.func162, Tryz.ntmps162
 go_wp2_with fail
 refine hR.out.mono ?_
 rintro e w2 ⟨v', rfl, hm, hk⟩
 have hsz1 := k0.out.size
 have hk2 : Keeps (fun _ => False) w w2 := k0.out.trans hk (fun k hk e => by omega)
 have hF2 := Lib.hid (hF.out w2 v' (hm.lower hsz1) hk2)
 clear hR hF hm hk hk2
 go_wp2_with fail
 refine hF2.out.mono ?_
 rintro e w3 ⟨rfl, hfin⟩
 have hfin := Lib.hid hfin
 go_wp2_with fail
 go_ret
 exact ⟨rfl, hfin.out⟩
set_option maxRecDepth 100000 in
theorem fixed8_any (w : World) (base E S W br gr n d N sc : Nat) (tr v u : Value) (xs : List Int) (s : Bool) (h : EncAt w base E S W tr xs) (hr : RatAt w br gr s false v u n d) (hsc : sc ≤ 15)
  (hd : d ≠ 0) (hdW : d < WB) (hN : n * 10 ^ sc = N * d) (hln : (digs WB n).length < 40) (hle : (digs WB (n * 10 ^ sc)).length ≤ 1000) (hg : Thr w) (hGL : GL ≤ w.heap.size) (hNs : N < 256 ^ 7) (hxl : xs.length ≤ 900000) :
  Calls Tryz.prog 87 #[.pointer (some ⟨E, 0, none⟩), .iface 98 (.pointer (some ⟨gr, 0, none⟩)), .int .i64 38, .int .i64 sc] w fun e w' => e = .returned .nilIface ∧ EncAt w' base E S W tr (xs ++ leB (zOf s N) 8) ∧ Below base w w' := by
 have hF := Lib.hid (encodeFixed_any w base E S W br gr n d N sc 8 tr v u xs s h hr hsc hd hdW hN hln hle hg hGL (by omega) hNs hxl)
 clear h hr hd hdW hN hln hle hg hGL hNs hxl
 go_enter Tryz.func87, Tryz.ntmps87
 go_wp2_with fail
 refine hF.out.mono ?_
 rintro e w3 ⟨rfl, hfin⟩
 have hfin := Lib.hid hfin
 go_wp2_with fail
 go_ret
 exact ⟨rfl, hfin.out⟩
set_option maxRecDepth 100000 in
theorem fixed12_any (w : World) (base E S W br gr n d N sc : Nat) (tr v u : Value) (xs : List Int) (s : Bool) (h : EncAt w base E S W tr xs) (hr : RatAt w br gr s false v u n d) (hsc : sc ≤ 15)
  (hd : d ≠ 0) (hdW : d < WB) (hN : n * 10 ^ sc = N * d) (hln : (digs WB n).length < 40) (hle : (digs WB (n * 10 ^ sc)).length ≤ 1000) (hg : Thr w) (hGL : GL ≤ w.heap.size) (hNs : N < 256 ^ 11) (hxl : xs.length ≤ 900000) :
  Calls Tryz.prog 88 #[.pointer (some ⟨E, 0, none⟩), .iface 98 (.pointer (some ⟨gr, 0, none⟩)), .int .i64 38, .int .i64 sc] w fun e w' => e = .returned .nilIface ∧ EncAt w' base E S W tr (xs ++ leB (zOf s N) 12) ∧ Below base w w' := by
 have hF := Lib.hid (encodeFixed_any w base E S W br gr n d N sc 12 tr v u xs s h hr hsc hd hdW hN hln hle hg hGL (by omega) hNs hxl)
 clear h hr hd hdW hN hln hle hg hGL hNs hxl
 go_enter Tryz.func88, Tryz.ntmps88
 go_wp2_with fail
 refine hF.out.mono ?_
 rintro e w3 ⟨rfl, hfin⟩
 have hfin := Lib.hid hfin
 go_wp2_with fail
 go_ret
 exact ⟨rfl, hfin.out⟩
set_option maxRecDepth 100000 in
theorem fixed16_any (w : World) (base E S W br gr n d N sc : Nat) (tr v u : Value) (xs : List Int) (s : Bool) (h : EncAt w base E S W tr xs) (hr : RatAt w br gr s false v u n d) (hsc : sc ≤ 15)
  (hd : d ≠ 0) (hdW : d < WB) (hN : n * 10 ^ sc = N * d) (hln : (digs WB n).length < 40) (hle : (digs WB (n * 10 ^ sc)).length ≤ 1000) (hg : Thr w) (hGL : GL ≤ w.heap.size) (hNs : N < 256 ^ 15) (hxl : xs.length ≤ 900000) :
  Calls Tryz.prog 89 #[.pointer (some ⟨E, 0, none⟩), .iface 98 (.pointer (some ⟨gr, 0, none⟩)), .int .i64 38, .int .i64 sc] w fun e w' => e = .returned .nilIface ∧ EncAt w' base E S W tr (xs ++ leB (zOf s N) 16) ∧ Below base w w' := by
 have hF := Lib.hid (encodeFixed_any w base E S W br gr n d N sc 16 tr v u xs s h hr hsc hd hdW hN hln hle hg hGL (by omega) hNs hxl)
 clear h hr hd hdW hN hln hle hg hGL hNs hxl
 go_enter Tryz.func89, Tryz.ntmps89
 go_wp2_with fail
 refine hF.out.mono ?_
 rintro e w3 ⟨rfl, hfin⟩
 have hfin := Lib.hid hfin
 go_wp2_with fail
 go_ret
 exact ⟨rfl, hfin.out⟩
end Go.Proofs.YthocmhkafgpgbaaGreatDoor
namespace Go.Proofs.YthocmhkafgpgbaaGreatDoor
def rowN : Nat → Nat → List Nat
 | 0, _ => []
 | n + 1, X => X % WB :: rowN n (X / WB)
theorem rowN_length (n : Nat) : ∀ X, (rowN n X).length = n := by
 induction n with
 | zero => intro X; rfl
 | succ n ih => intro X; simp [rowN, ih]
theorem rowN_words (n : Nat) : ∀ X, Words WB (rowN n X) := by
 induction n with
 | zero => intro X x h; simp [rowN] at h
 | succ n ih =>
  intro X x h
  simp only [rowN, List.mem_cons] at h
  rcases h with rfl | h
  ·exact Nat.mod_lt _ WB_pos
  ·exact ih _ x h
theorem rowN_get (n : Nat) : ∀ (X t : Nat) (h : t < (rowN n X).length), (rowN n X)[t] = X / WB ^ t % WB := by
 induction n with
 | zero => intro X t h; simp [rowN] at h
 | succ n ih =>
  intro X t h
  cases t with
  | zero => simp [rowN]
  | succ t =>
   have h2 : t < (rowN n (X / WB)).length := by simpa [rowN] using h
   have e : (rowN (n + 1) X)[t + 1] = (rowN n (X / WB))[t] := by simp [rowN]
   rw [e, ih _ _ h2, Nat.div_div_eq_div_mul, Nat.pow_succ, Nat.mul_comm WB]
theorem rowN_val (n : Nat) : ∀ X, X < WB ^ n → val WB (rowN n X) = X := by
 induction n with
 | zero => intro X h; simp at h; subst h; rfl
 | succ n ih =>
  intro X h
  simp only [rowN, val]
  rw [ih (X / WB) ((Nat.div_lt_iff_lt_mul WB_pos).2 (by rw [Nat.pow_succ] at h; exact h))]
  have := Nat.mod_add_div X WB
  omega
theorem rowN_zero (n : Nat) : rowN n 0 = List.replicate n 0 := by
 induction n with
 | zero => rfl
 | succ n ih => simp [rowN, ih, List.replicate_succ]
theorem rowN_step (n X b t m : Nat) (hm : m < 8) (hX : X < 256 ^ (8 * t + m)) (hb : b < 256) (ht : t < n) : (rowN n X).set t (X / WB ^ t % WB + b * 256 ^ m) = rowN n (X + b * 256 ^ (8 * t + m)) := by
 refine List.ext_getElem (by simp [rowN_length]) fun i h1 h2 => ?_
 rw [rowN_get, List.getElem_set]
 have hp : 256 ^ m * 256 ^ (8 - m) = WB := by rw [← Nat.pow_add, WB_eq, show m + (8 - m) = 8 by omega]
 have hp1 : 0 < 256 ^ m := Nat.pow_pos (by omega)
 split
 ·rename_i e
  subst e
  have e1 : b * 256 ^ (8 * t + m) = b * 256 ^ m * WB ^ t := by rw [WB_pow, Nat.pow_add]; ac_rfl
  have hW0 : 0 < WB ^ t := Nat.pow_pos WB_pos
  rw [e1, Nat.add_mul_div_right _ _ hW0]
  have h3 : X / WB ^ t < 256 ^ m := (Nat.div_lt_iff_lt_mul hW0).2 (by rw [WB_pow, ← Nat.pow_add, Nat.add_comm]; exact hX)
  have h4 : 256 ^ m * 256 ≤ WB := by rw [← hp]; exact Nat.mul_le_mul_left _ (by rw [show 8 - m = (7 - m) + 1 by omega, Nat.pow_succ]; have := Nat.pow_pos (n := 7 - m) (show 0 < 256 by omega); omega)
  have h5 : X / WB ^ t + b * 256 ^ m < WB := by
   have : (b + 1) * 256 ^ m ≤ 256 * 256 ^ m := Nat.mul_le_mul_right _ (by omega)
   rw [Nat.add_mul] at this
   omega
  rw [Nat.mod_eq_of_lt h5, Nat.mod_eq_of_lt (by omega)]
 ·rename_i e
  rw [rowN_get]
  rcases Nat.lt_or_ge i t with hlt | hge
  ·obtain ⟨d, hd⟩ : ∃ d, 8 * t + m = 8 * i + 8 + d := ⟨8 * t + m - (8 * i + 8), by omega⟩
   have hW8 : WB = 256 ^ 8 := by rw [WB_eq]
   have e1 : b * 256 ^ (8 * t + m) = b * 256 ^ d * WB * WB ^ i := by rw [hd, WB_pow, Nat.pow_add, Nat.pow_add, hW8]; ac_rfl
   rw [e1, Nat.add_mul_div_right _ _ (Nat.pow_pos WB_pos), Nat.add_mul_mod_self_right]
  ·have hgt : t < i := by omega
   have h3 : 256 ^ (8 * t + m) * 256 ≤ WB ^ i := by
    rw [WB_pow, ← Nat.pow_succ]
    exact Nat.pow_le_pow_right (by omega) (by omega)
   have h4 : b * 256 ^ (8 * t + m) ≤ 255 * 256 ^ (8 * t + m) := Nat.mul_le_mul_right _ (by omega)
   rw [Nat.div_eq_of_lt (by omega), Nat.div_eq_of_lt (by omega)]
theorem or_byte (X b t m : Nat) (hm : m < 8) (hX : X < 256 ^ (8 * t + m)) (hb : b < 256) : bits .or .u64 ((X / WB ^ t % WB : Nat) : Int) ((b * 256 ^ m : Nat) : Int) = ((X / WB ^ t % WB + b * 256 ^ m : Nat) : Int) := by
 have hp : 256 ^ m * 256 ^ (8 - m) = WB := by rw [← Nat.pow_add, WB_eq, show m + (8 - m) = 8 by omega]
 have h3 : X / WB ^ t < 256 ^ m := (Nat.div_lt_iff_lt_mul (Nat.pow_pos WB_pos)).2 (by rw [WB_pow, ← Nat.pow_add, Nat.add_comm]; exact hX)
 have h4 : 256 ^ m * 256 ≤ WB := by rw [← hp]; exact Nat.mul_le_mul_left _ (by rw [show 8 - m = (7 - m) + 1 by omega, Nat.pow_succ]; have := Nat.pow_pos (n := 7 - m) (show 0 < 256 by omega); omega)
 have h5 : b * 256 ^ m ≤ 255 * 256 ^ m := Nat.mul_le_mul_right _ (by omega)
 have hp1 : 0 < 256 ^ m := Nat.pow_pos (by omega)
 refine orI (Nat.mod_lt _ WB_pos) (by omega) ?_
 rw [Nat.mod_eq_of_lt (by omega)]
 have e : 256 ^ m = 2 ^ (8 * m) := by rw [Nat.pow_mul]
 rw [e] at h3 ⊢
 rw [Nat.or_comm, ← Nat.shiftLeft_eq, Nat.add_comm, Nat.shiftLeft_add_eq_or_of_lt h3]
theorem compl_byte (s : Nat) : ∀ (Y i : Nat), Y < 256 ^ s → i < s → (256 ^ s - 1 - Y) / 256 ^ i % 256 = 255 - Y / 256 ^ i % 256 := by
 induction s with
 | zero => intro Y i _ h; omega
 | succ s ih =>
  intro Y i hY hi
  rw [Nat.pow_succ] at hY ⊢
  cases i with
  | zero =>
   rw [Nat.pow_zero, Nat.div_one, Nat.div_one]
   omega
  | succ i =>
   have h2 : Y / 256 < 256 ^ s := (Nat.div_lt_iff_lt_mul (by omega)).2 hY
   rw [Nat.pow_succ, Nat.mul_comm (256 ^ i), ← Nat.div_div_eq_div_mul, ← Nat.div_div_eq_div_mul, show (256 ^ s * 256 - 1 - Y) / 256 = 256 ^ s - 1 - Y / 256 by omega]
   exact ih _ i h2 (by omega)
theorem leB_nat (N size : Nat) (s : Bool) (hN : N < 256 ^ (size - 1)) (h1 : 0 < size) : ∃ Y, Y < 256 ^ size ∧ (∀ j (h : j < (leB (zOf s N) size).length), (leB (zOf s N) size)[j] = ((Y / 256 ^ j % 256 : Nat) : Int)) ∧
  ((N ≠ 0 ∧ s = true ∧ Y = 256 ^ size - N) ∨ ((decide (N ≠ 0) && s) = false ∧ Y = N)) := by
 have hs : 256 ^ size = 256 ^ (size - 1) * 256 := by obtain ⟨q, rfl⟩ : ∃ q, size = q + 1 := ⟨size - 1, by omega⟩; rw [Nat.pow_succ]; rfl
 by_cases e : N ≠ 0 ∧ s = true
 ·obtain ⟨h0, rfl⟩ := e
  refine ⟨256 ^ size - N, by omega, fun j h => ?_, .inl ⟨h0, rfl, rfl⟩⟩
  rw [leB_get]
  have hj : j < size := by simpa using h
  rw [show (256 : Int) ^ j = ((256 ^ j : Nat) : Int) from (Int.natCast_pow 256 j).symm]
  obtain ⟨d, hd⟩ : ∃ d, size = j + 1 + d := ⟨size - (j + 1), by omega⟩
  have e1 : 256 ^ size = 256 ^ d * 256 * 256 ^ j := by rw [hd, Nat.pow_add, Nat.pow_succ]; ac_rfl
  have hP0 : 256 ^ j ≠ 0 := by have := Nat.pow_pos (n := j) (show 0 < 256 by omega); omega
  have hle : N ≤ 256 ^ size := by omega
  rw [e1] at hle ⊢
  clear hs e1 hN
  generalize 256 ^ j = P at *
  generalize 256 ^ d = Q at *
  have h3 : ((Q * 256 * P - N + N : Nat) : Int) = ((Q * 256 * P : Nat) : Int) := by rw [Nat.sub_add_cancel hle]
  generalize Q * 256 * P - N = M at *
  rw [Int.natCast_mul, Int.natCast_add] at h3
  have e1 : zOf true N = (M : Int) + (-((Q * 256 : Nat) : Int)) * (P : Int) := by unfold zOf; rw [if_pos rfl, Int.neg_mul]; omega
  rw [e1, Int.add_mul_ediv_right _ _ (by omega)]
  have e2 : (M : Int) / (P : Int) = ((M / P : Nat) : Int) := by simp
  rw [e2]
  generalize M / P = m
  omega
 ·have e1 : (decide (N ≠ 0) && s) = false := by
   cases s
   ·simp
   ·simp only [and_true] at e; simp [e]
  have e2 : zOf s N = (N : Int) := by
   unfold zOf
   cases s
   ·rfl
   ·simp only [and_true, Decidable.not_not] at e; subst e; rfl
  refine ⟨N, by omega, fun j h => ?_, .inr ⟨e1, rfl⟩⟩
  rw [leB_get, e2]
  simp
end Go.Proofs.YthocmhkafgpgbaaGreatDoor
