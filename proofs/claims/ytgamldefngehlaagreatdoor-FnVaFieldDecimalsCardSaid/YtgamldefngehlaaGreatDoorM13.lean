/- Parts of the walk. -/
import Derived.Test.YtgamldefngehlaaGreatDoorM02
import Derived.Test.YtgamldefngehlaaGreatDoorM09
import Derived.Deep.DeepCutAuto
set_option linter.unusedVariables false
set_option linter.unusedSimpArgs false
namespace Go.Proofs.YtgamldefngehlaaGreatDoor
theorem val_top {xs : List Nat} {n : Nat} (h : xs.length = n + 1) : val WB xs = val WB (xs.take n) + WB ^ n * xs[n] := by
 have := val_take_succ (B := WB) xs n (by omega)
 rwa [List.take_of_length_le (by omega)] at this
theorem val_take_lt {xs : List Nat} (hw : Words WB xs) (n : Nat) : val WB (xs.take n) < WB ^ n := by
 have := val_lt (hw.take n)
 refine Nat.lt_of_lt_of_le this (Nat.pow_le_pow_right WB_pos ?_)
 simp; omega
structure Win (vs ws : List Nat) (n : Nat) : Prop where
 vl : vs.length = n + 2
 wl : ws.length = n + 3
 vw : Words WB vs
 ww : Words WB ws
 norm : WB ≤ 2 * vs[n + 1]
 lt : val WB ws < val WB vs * WB
section
variable {vs ws : List Nat} {n : Nat}
theorem Win.v2 (h : Win vs ws n) : val WB vs = (vs[n + 1]'(by have := h.vl; omega) * WB + vs[n]'(by have := h.vl; omega)) * WB ^ n + val WB (vs.take n) := by
 have hl := h.vl
 have e1 := val_top (xs := vs) (n := n + 1) (by omega)
 have e2 := val_take_succ (B := WB) vs n (by omega)
 rw [e1, e2, Nat.pow_succ, Nat.add_mul, Nat.mul_comm (WB ^ n * WB), Nat.mul_assoc, Nat.mul_comm WB (WB ^ n), Nat.mul_comm (WB ^ n) vs[n]]
 omega
theorem Win.v1 (h : Win vs ws n) : val WB vs = vs[n + 1]'(by have := h.vl; omega) * WB ^ (n + 1) + val WB (vs.take (n + 1)) := by
 have hl := h.vl
 have e1 := val_top (xs := vs) (n := n + 1) (by omega)
 rw [e1, Nat.mul_comm (WB ^ (n + 1))]
 omega
theorem Win.w2 (h : Win vs ws n) : val WB ws = (ws[n + 2]'(by have := h.wl; omega) * WB + ws[n + 1]'(by have := h.wl; omega)) * WB ^ (n + 1) + val WB (ws.take (n + 1)) := by
 have hl := h.wl
 have e1 := val_top (xs := ws) (n := n + 2) (by omega)
 have e2 := val_take_succ (B := WB) ws (n + 1) (by omega)
 rw [e1, e2, Nat.pow_succ WB (n + 1), Nat.add_mul, Nat.mul_comm (WB ^ (n + 1) * WB), Nat.mul_assoc, Nat.mul_comm WB (WB ^ (n + 1)), Nat.mul_comm (WB ^ (n + 1)) ws[n + 1]]
 omega
theorem Win.w3 (h : Win vs ws n) : val WB ws = ((ws[n + 2]'(by have := h.wl; omega) * WB + ws[n + 1]'(by have := h.wl; omega)) * WB + ws[n]'(by have := h.wl; omega)) * WB ^ n + val WB (ws.take n) := by
 have hl := h.wl
 have e1 := h.w2
 have e2 := val_take_succ (B := WB) ws n (by omega)
 rw [e1, e2, Nat.pow_succ, Nat.add_mul _ _ (WB ^ n), Nat.mul_assoc _ WB (WB ^ n), Nat.mul_comm (WB ^ n) WB, Nat.mul_comm ws[n] (WB ^ n)]
 omega
theorem Win.vpos (h : Win vs ws n) : 0 < val WB vs := by
 have e := h.v1
 have hn := h.norm
 have hw := WB_pos
 have : 0 < vs[n + 1]'(by have := h.vl; omega) * WB ^ (n + 1) := Nat.mul_pos (by omega) (Nat.pow_pos hw)
 omega
theorem Win.qlt (h : Win vs ws n) : val WB ws / val WB vs < WB := (Nat.div_lt_iff_lt_mul h.vpos).2 (by rw [Nat.mul_comm]; exact h.lt)
theorem Win.top_le (h : Win vs ws n) : ws[n + 2]'(by have := h.wl; omega) ≤ vs[n + 1]'(by have := h.vl; omega) := by
 have e1 := h.v1
 have e2 := h.w2
 have hl := h.lt
 have ht := val_take_lt h.vw (n + 1)
 have hwl := h.wl
 have hvl := h.vl
 generalize hw2 : ws[n + 2] = a at *
 generalize hv1 : vs[n + 1] = b at *
 rw [← Nat.not_lt]
 intro hlt
 have a1 : (b + 1) * (WB * WB ^ (n + 1)) ≤ a * (WB * WB ^ (n + 1)) := Nat.mul_le_mul_right _ hlt
 have a2 : val WB vs * WB < (b + 1) * (WB * WB ^ (n + 1)) := by
  rw [e1, Nat.mul_left_comm, Nat.mul_comm WB, Nat.mul_comm (b * WB ^ (n + 1) + _), Nat.mul_comm (_ : Nat) WB]
  refine (Nat.mul_lt_mul_left WB_pos).2 ?_
  rw [Nat.succ_mul]
  omega
 rw [Nat.add_mul, Nat.mul_assoc] at e2
 omega
theorem Win.start (h : Win vs ws n) : val WB ws / val WB vs ≤ (ws[n + 2]'(by have := h.wl; omega) * WB + ws[n + 1]'(by have := h.wl; omega)) / vs[n + 1]'(by have := h.vl; omega) :=
 guess_ge h.v1 h.w2 (val_take_lt h.ww (n + 1)) (by have := h.norm; have := WB_pos; omega)
theorem Win.down (h : Win vs ws n) {qh rh : Nat} (hr : ws[n + 2]'(by have := h.wl; omega) * WB + ws[n + 1]'(by have := h.wl; omega) = qh * vs[n + 1]'(by have := h.vl; omega) + rh) (hg : rh * WB + ws[n]'(by have := h.wl; omega) < qh * vs[n]'(by have := h.vl; omega)) : val WB ws / val WB vs < qh := by
 refine guess_lt h.v2 h.w3 (val_take_lt h.ww n) ?_
 rw [hr, Nat.mul_add, Nat.add_mul, Nat.mul_assoc]
 omega
theorem Win.stop (h : Win vs ws n) {qh rh : Nat} (hq : qh ≤ WB) (hr : ws[n + 2]'(by have := h.wl; omega) * WB + ws[n + 1]'(by have := h.wl; omega) = qh * vs[n + 1]'(by have := h.vl; omega) + rh) (hg : qh * vs[n]'(by have := h.vl; omega) ≤ rh * WB + ws[n]'(by have := h.wl; omega)) : qh ≤ val WB ws / val WB vs + 1 := by
 refine guess_le h.v2 h.w3 (val_take_lt h.vw n) (B := WB) ?_ hq ?_
 ·have hn := h.norm
  have hw := WB_pos
  have : WB ≤ vs[n + 1]'(by have := h.vl; omega) * WB := Nat.le_mul_of_pos_left _ (by omega)
  omega
 ·rw [hr, Nat.mul_add, Nat.add_mul, Nat.mul_assoc]
  omega
theorem Win.max (h : Win vs ws n) (he : ws[n + 2]'(by have := h.wl; omega) = vs[n + 1]'(by have := h.vl; omega)) : val WB ws / val WB vs ≤ WB - 1 ∧ WB - 1 ≤ val WB ws / val WB vs + 1 :=
 guess_max h.v1 h.w2 (val_take_lt h.vw (n + 1)) h.norm WB_pos (by rw [he]; omega) h.lt
end
theorem sub_right {X V q qh z P : Nat} (hV : 0 < V) (hq : X / V = q) (h1 : q ≤ qh) (h2 : qh ≤ q + 1) (h : z + V * qh = X + P * 0) : qh = q ∧ z = X % V := by
 have hd := Nat.div_add_mod X V
 rw [hq] at hd
 have hm := Nat.mod_lt X hV
 rcases (show qh = q ∨ qh = q + 1 by omega) with e | e
 ·subst e; exact ⟨rfl, by omega⟩
 ·subst e
  rw [Nat.mul_add] at h
  omega
theorem sub_back {X V q qh z P : Nat} (hV : 0 < V) (hq : X / V = q) (h1 : q ≤ qh) (h2 : qh ≤ q + 1) (hz : z < P) (h : z + V * qh = X + P * 1) : qh = q + 1 ∧ z + V = X % V + P := by
 have hd := Nat.div_add_mod X V
 rw [hq] at hd
 have hm := Nat.mod_lt X hV
 rcases (show qh = q ∨ qh = q + 1 by omega) with e | e
 ·subst e; omega
 ·subst e
  rw [Nat.mul_add] at h
  exact ⟨rfl, by omega⟩
theorem back_top {z1 t c R P : Nat} (hz : z1 < P) (hR : R < P) (h : z1 + P * (t + c) = R + P * WB) : z1 = R ∧ t + c = WB := by
 have h1 : z1 = R := by
  have := congrArg (· % P) h
  simpa [Nat.add_mul_mod_self_left, Nat.mod_eq_of_lt hz, Nat.mod_eq_of_lt hR] using this
 subst h1
 exact ⟨rfl, Nat.eq_of_mul_eq_mul_left (by omega) (by omega : P * (t + c) = P * WB)⟩
theorem step_mod (U V j : Nat) (hV : 0 < V) (x r : Nat) (hx : U / WB ^ j % WB = x) (hr : U / WB ^ (j + 1) % V = r) : (x + WB * r) % V = U / WB ^ j % V ∧ (x + WB * r) / V = U / V / WB ^ j % WB := by
 have e : U / WB ^ j = x + WB * (U / WB ^ (j + 1)) := by
  rw [Nat.pow_succ, ← Nat.div_div_eq_div_mul, ← hx]
  have := Nat.div_add_mod (U / WB ^ j) WB
  omega
 have hd := Nat.div_add_mod (U / WB ^ (j + 1)) V
 rw [hr] at hd
 have e2 : U / WB ^ j = (x + WB * r) + V * (WB * (U / WB ^ (j + 1) / V)) := by
  rw [e, ← hd]
  rw [hd, Nat.mul_left_comm, Nat.add_assoc, ← Nat.mul_add, Nat.add_comm r, hd]
 constructor
 ·rw [e2, Nat.add_mul_mod_self_left]
 ·have e3 : U / V / WB ^ j = (x + WB * r) / V + WB * (U / WB ^ (j + 1) / V) := by
   rw [Nat.div_div_eq_div_mul, Nat.mul_comm V, ← Nat.div_div_eq_div_mul, e2, Nat.add_mul_div_left _ _ hV]
  have hlt : (x + WB * r) / V < WB := by
   have hxl : x < WB := by rw [← hx]; exact Nat.mod_lt _ WB_pos
   have hrl : r < V := by rw [← hr]; exact Nat.mod_lt _ hV
   rw [Nat.div_lt_iff_lt_mul hV]
   have := Nat.mul_le_mul_left WB hrl
   rw [Nat.mul_succ] at this
   omega
  rw [e3, Nat.add_mul_mod_self_left, Nat.mod_eq_of_lt hlt]
def lowd (Q m : Nat) : List Nat := (List.range m).map fun j => Q / WB ^ j % WB
theorem lowd_length (Q m : Nat) : (lowd Q m).length = m := by simp [lowd]
theorem lowd_get (Q m j : Nat) (h : j < m) : (lowd Q m)[j]? = some (Q / WB ^ j % WB) := by simp [lowd, h]
theorem lowd_words (Q m : Nat) : Words WB (lowd Q m) := fun x hx => by
 obtain ⟨j, _, rfl⟩ := List.mem_map.1 hx
 exact Nat.mod_lt _ WB_pos
theorem lowd_val (Q : Nat) : ∀ m, val WB (lowd Q m) = Q % WB ^ m
 | 0 => by simp [lowd, val_nil, Nat.mod_one]
 | m + 1 => by
  have e : lowd Q (m + 1) = lowd Q m ++ [Q / WB ^ m % WB] := by simp [lowd, List.range_succ]
  rw [e, val_snoc, lowd_length, lowd_val Q m, Nat.mod_pow_succ]
theorem window {vs us : List Nat} {n k i un U V v1 uj : Nat} (hk : n = k + 2) (hvn : vs.length = n) (hul : us.length = un) (hi : i + n < un) (wv : Words WB vs) (wu : Words WB us) (hV : val WB vs = V) (hv1 : vs[k + 1]? = some v1) (hnorm : WB ≤ 2 * v1)
  (hx : us[i]? = some (U / WB ^ i % WB)) (hr : val WB (us.drop (i + 1)) = U / WB ^ (i + 1) % V) (huj : us[i + n]? = some uj) :
  ∃ ws, (us.drop i).take (n + 1) = ws ∧ Win vs ws k ∧ ws[k + 2]? = some uj ∧ ws[k + 1]? = us[i + k + 1]? ∧ ws[k]? = us[i + k]? ∧ val WB ws / V = U / V / WB ^ i % WB ∧ val WB ws % V = U / WB ^ i % V ∧ val WB (us.drop (i + (n + 1))) = 0 := by
 obtain ⟨hil, hxe⟩ := List.getElem?_eq_some_iff.1 hx
 obtain ⟨hvl, hve⟩ := List.getElem?_eq_some_iff.1 hv1
 have hV0 : 0 < V := by
  have e2 := val_top (xs := vs) (n := k + 1) (by omega)
  rw [hve, hV] at e2
  have : 0 < WB ^ (k + 1) * v1 := Nat.mul_pos (Nat.pow_pos WB_pos) (by have := WB_pos; omega)
  omega
 have hVl : V < WB ^ n := by rw [← hV, ← hvn]; exact val_lt wv
 have hrl : val WB (us.drop (i + 1)) < V := by rw [hr]; exact Nat.mod_lt _ hV0
 have hz : val WB (us.drop (i + (n + 1))) = 0 := by
  have hs := val_split (B := WB) (us.drop (i + 1)) n (by rw [List.length_drop]; omega)
  rw [List.drop_drop, show i + 1 + n = i + (n + 1) by omega] at hs
  rcases Nat.eq_zero_or_pos (val WB (us.drop (i + (n + 1)))) with h | h
  ·exact h
  ·have := Nat.le_mul_of_pos_right (WB ^ n) h
   omega
 have hX : val WB ((us.drop i).take (n + 1)) = U / WB ^ i % WB + WB * val WB (us.drop (i + 1)) := by
  have hs := val_split (B := WB) (us.drop i) (n + 1) (by rw [List.length_drop]; omega)
  rw [List.drop_drop, hz, Nat.mul_zero, Nat.add_zero] at hs
  rw [← hs, val_drop_cons us i hil, hxe]
 have hst := step_mod U V i hV0 _ _ rfl hr.symm
 rw [← hX] at hst
 refine ⟨_, rfl, ⟨by omega, by simp; omega, wv, (wu.drop i).take _, ?_, ?_⟩, ?_, ?_, ?_, hst.2, hst.1, hz⟩
 ·rw [hve]; exact hnorm
 ·rw [hX, hV, Nat.mul_comm V]
  have := Nat.mul_le_mul_left WB hrl
  rw [Nat.mul_succ] at this
  have := Nat.mod_lt (U / WB ^ i) WB_pos
  omega
 ·rw [List.getElem?_take_of_lt (by omega), List.getElem?_drop, ← hk]; exact huj
 ·rw [List.getElem?_take_of_lt (by omega), List.getElem?_drop]; rfl
 ·rw [List.getElem?_take_of_lt (by omega), List.getElem?_drop]
theorem over_drop0 {us ws : List Nat} {i : Nat} (h : i + ws.length ≤ us.length) : (over us i ws).drop i = ws ++ us.drop (i + ws.length) := by
 unfold over
 rw [List.drop_append, List.drop_of_length_le (by simp; omega), List.length_take, Nat.min_eq_left (by omega), Nat.sub_self, List.drop_zero, List.nil_append]
theorem over_drop_val {us ws : List Nat} {i : Nat} (h : i + ws.length ≤ us.length) (hz : val WB (us.drop (i + ws.length)) = 0) : val WB ((over us i ws).drop i) = val WB ws := by
 have e : (over us i ws).drop i = ws ++ us.drop (i + ws.length) := by
  unfold over
  rw [List.drop_append, List.drop_of_length_le (by simp; omega), List.length_take, Nat.min_eq_left (by omega), Nat.sub_self, List.drop_zero, List.nil_append]
 rw [e, val_append, hz, Nat.mul_zero, Nat.add_zero]
theorem over_take {us ws : List Nat} {i : Nat} (h : i ≤ us.length) : (over us i ws).take i = us.take i := by
 unfold over
 rw [List.take_append_of_le_length (by simp; omega), List.take_take, Nat.min_self]
theorem over_drop {us ws : List Nat} {i : Nat} (h : i + ws.length ≤ us.length) : (over us i ws).drop (i + ws.length) = us.drop (i + ws.length) := by
 unfold over
 rw [← List.append_assoc, List.drop_append, List.drop_of_length_le (by simp; omega)]
 simp
 rw [show i + ws.length - (min i us.length + ws.length) = 0 by omega, Nat.add_zero]
end Go.Proofs.YtgamldefngehlaaGreatDoor
namespace Go.Proofs.YtgamldefngehlaaGreatDoor
open Go.RowKit
theorem greaterThan_any (x1 x2 y1 y2 : Nat) (w : World) (h2 : x2 < WB) (h4 : y2 < WB) :
  Calls Tryz.prog 313 #[.int .u64 x1, .int .u64 x2, .int .u64 y1, .int .u64 y2] w fun e w' => e = .returned (.bool (decide (y1 * WB + y2 < x1 * WB + x2))) ∧ w' = w := by
 have key : ∀ b : Bool, (b = true ↔ y1 * WB + y2 < x1 * WB + x2) → decide (y1 * WB + y2 < x1 * WB + x2) = b := fun b h => by
  cases b <;> simp_all
 rcases Nat.lt_trichotomy x1 y1 with h | h | h
 ·have hb := key false (by
   have := Nat.mul_le_mul_right WB h
   rw [Nat.succ_mul] at this
   simp; omega)
  rw [hb]
  have t1 : decide (y1 < x1) = false := by simp; omega
  have t2 : ((x1 : Int) == y1) = false := by simp; omega
  clear key hb h2 h4 h
  go_enter Tryz.func313, Tryz.ntmps313
  go_wp2_with fail
  go_ret
  exact ⟨by first | rfl | simp_all, rfl⟩
 ·subst h
  by_cases h' : y2 < x2
  ·have hb := key true (by simp; omega)
   rw [hb]
   have t1 : decide ((x1 : Int) < x1) = false := by simp
   have t3 : decide (y2 < x2) = true := by simp; omega
   clear key hb h2 h4 h'
   go_enter Tryz.func313, Tryz.ntmps313
   go_wp2_with fail
   go_ret
   exact ⟨by first | rfl | simp_all, rfl⟩
  ·have hb := key false (by simp; omega)
   rw [hb]
   have t1 : decide ((x1 : Int) < x1) = false := by simp
   have t3 : decide (y2 < x2) = false := by simp; omega
   clear key hb h2 h4 h'
   go_enter Tryz.func313, Tryz.ntmps313
   go_wp2_with fail
   go_ret
   exact ⟨by first | rfl | simp_all, rfl⟩
 ·have hb := key true (by
   have := Nat.mul_le_mul_right WB h
   rw [Nat.succ_mul] at this
   simp; omega)
  rw [hb]
  have t1 : decide (y1 < x1) = true := by simp; omega
  clear key hb h2 h4 h
  go_enter Tryz.func313, Tryz.ntmps313
  go_wp2_with fail
  go_ret
  exact ⟨by first | rfl | simp_all, rfl⟩
theorem Keeps.undrew {T : Nat → Prop} {w w' : World} (h : Keeps T w.drew w') : Keeps T w w' := ⟨h.os, h.tape, h.output, h.size, h.blk⟩
theorem qdig0 (us : List Nat) (i : Nat) (h : i < us.length) (hw : Words WB us) : us[i]? = some (val WB us / WB ^ i % WB) := by
 have hs := val_split (B := WB) us i (by omega)
 have h1 := val_take_lt hw i
 rw [hs, Nat.add_mul_div_left _ _ (Nat.pow_pos WB_pos), Nat.div_eq_of_lt h1, Nat.zero_add, val_drop_cons us i h, Nat.add_mul_mod_self_left, Nat.mod_eq_of_lt (hw.get i h)]
 exact List.getElem?_eq_getElem h
theorem Blk.notStk {w : World} {g s : Nat} {C : List Nat} (h : Blk w g C) (hs : StkNew w s) : g ≠ s := by
 intro e
 subst e
 have := Eq.symm h |>.trans hs
 simp at this
theorem StkIn.kept {w w' : World} {T : Nat → Prop} {s b : Nat} (h : StkIn w s b) (hk : Keeps T w w') (hT : ∀ k, T k → ∃ C, Blk w k C) : StkIn w' s b := by
 rcases h with h | ⟨i, g, L, c, hb, h⟩
 ·exact .inl (hk.at_ h (fun x => by obtain ⟨C, hC⟩ := hT _ x; exact hC.notStk h rfl))
 ·refine .inr ⟨i, g, L, c, hb, hk.at_ h.top (fun x => ?_), hk.at_ h.inner (fun x => ?_)⟩
  ·obtain ⟨C, hC⟩ := hT _ x
   have := Eq.symm hC |>.trans h.top
   simp at this
  ·obtain ⟨C, hC⟩ := hT _ x
   have := Eq.symm hC |>.trans h.inner
   simp at this
theorem Vec.notStk {w : World} {g s : Nat} {xs : List Nat} (h : Vec w g 0 xs) (h0 : 0 < xs.length) (hs : StkNew w s) : g ≠ s := by
 intro e
 subst e
 have := h 0 h0
 rw [cellOf hs] at this
 simp at this
structure DivMem (w wr : World) (gu gq gh un n j : Nat) (Cu Cq us zs : List Nat) : Prop where
 ul : us.length = un
 uw : Words WB us
 ub : Blk wr gu (over Cu 0 us)
 qk : Blk wr gq (over Cq j (zs.drop j))
 hb : ∃ Ch, Blk wr gh Ch ∧ n + 1 ≤ Ch.length
 keep : Keeps (fun k => k = gu ∨ k = gq ∨ k = gh) w wr
def firstLoop : Code → Option Code
 | .loop c => some c
 | .seq a b => match firstLoop a with
  | some c => some c
  | none => firstLoop b
 | .block _ c => firstLoop c
 | .scope c => firstLoop c
 | .cond _ a b => match firstLoop a with
  | some c => some c
  | none => firstLoop b
 | _ => none
noncomputable def dbBody : Code := ((Tryz.f290.body.bind firstLoop).getD .skip)
structure DbCtx (W0 : World) (gq gu gv gh n m k k1 un n1 cv ch v1 rc tu : Nat) (Cq Cu us0 vs zs : List Nat) (U V : Nat) : Prop where
 hv0 : Vec W0 gv 0 vs
 hqL : m ≤ Cq.length
 hm0 : 0 < m
 hm : m ≤ 1000
 hvn : vs.length = n
 wv : Words WB vs
 wu : Words WB us0
 htu : us0[m + n - 1]? = some tu
 hv1 : vs[k1]? = some v1
 hnorm : WB ≤ 2 * v1
 htop : tu < v1
 h1 : gq ≠ gu
 h2 : gv ≠ gu
 h3 : gv ≠ gq
 hcv : n ≤ cv
 hn4 : n ≤ 4
 huL : un ≤ Cu.length
 hun : m + n = un
 hn1 : n + 1 = n1
 hk1 : k + 1 = k1
 hk : n = k + 2
 hch : n1 ≤ ch
 hD : ∀ (x1 x0 : Nat), x1 < v1 → x0 < WB → ∀ (w : World), Calls Tryz.prog 306 #[.int .u64 x1, .int .u64 x0, .int .u64 v1, .int .u64 rc] w fun e w' => e = .returned (.tuple #[.int .u64 ((x1 * WB + x0) / v1 : Nat), .int .u64 ((x1 * WB + x0) % v1 : Nat)]) ∧ w' = w
 husl : us0.length = un
 hV : val WB vs = V
 hU : val WB us0 = U
 hzs : lowd (U / V) m = zs
 hzl : zs.length = m
 hghu : gh ≠ gu
 hghq : gh ≠ gq
 hghv : gh ≠ gv
 hvm : val WB (us0.drop m) = U / WB ^ m % V
set_option maxRecDepth 1000000 in
abbrev DbI (W0 : World) (gq gu gv gh n m k k1 un n1 cv ch v1 rc tu : Nat) (Cq Cu us0 vs zs : List Nat) (U V : Nat) (s : Nat) (c4 c5 c6 c7 c24 c25 c26 c27 c28 c29 c30 c31 c32 c33 c34 c35 c36 c37 c38 c39 c40 c41 c42 c43 c44 : Value) : Act → World → Prop := fun a' w' =>
 ∃ u13 u14 u15 u16 u17 u18 u19 u20 u21 u22 u23 u45 u46 u47 u48 u49 u50 u51 u52 u53 u54 u55 u56 u57 u58 u59 u60 u61 u62 u63 u64 u65 u66 u67 u68 u69 u70 u71 u72 u73 u74 u75 u76 u77 u78 u79 u80 u81 u82 u83 u84 u85 u86 u87 u88 u89 u90 u91 u92 u93 u94 u95 u96 u97 u98 u99 u100 u101 u102 u103 u104 u105 u106 u107 u108 u109 u110 u111 u112 u113 u114 u115 u116 u117 u118 u119 u120 u121 u122 u123 u124 u125 u126 u127 u128 u129 u130 u131 u132 u133 u134 u135 u136 u137 u138 u139 u140 u141 u142 u143 u144 u145 u146 u147 u148 u149 u150 u151 u152 u153 u154 u155 u156 u157 u158 u159 u160 u161 u162 u163 u164 u165 u166 u167 u168 u169 u170 u171 u172 u173 u174 u175 u176 u177 u178 u179 u180 u181 u182 u183 u184 u185 u186 u187 u188 u189 u190 u191 u192 u193 u194 u195 u196 u197 u198 u199 u200 : Value, (∃ (us : List Nat) (kk : Int) (j uj : Nat), u14 = .int .i64 kk ∧ u13 = .int .u64 uj ∧ DivMem W0 w' gu gq gh un n j Cu Cq us zs ∧
  ((kk = m ∧ j = m ∧ uj = 0 ∧ us = us0) ∨ (kk + 1 = j ∧ j ≤ m ∧ val WB (us.drop j) = U / WB ^ j % V ∧ us.take j = us0.take j ∧ (j = 0 ∨ us[j - 1 + n]? = some uj)))) ∧ a' = ⟨#[.slice (some ⟨gq, 0, none⟩) m Cq.length, .pointer (some ⟨s, 0, none⟩), .slice (some ⟨gu, 0, none⟩) un Cu.length, .slice (some ⟨gv, 0, none⟩) n cv, c4, c5, c6, c7, .int .i64 (n : Int), .int .i64 (m : Int), .slice (some ⟨gh, 0, none⟩) n1 ch, .int .u64 (v1 : Int), .int .u64 (rc : Int), u13, u14, u15, u16, u17, u18, u19, u20, u21, u22, u23, c24, c25, c26, c27, c28, c29, c30, c31, c32, c33, c34, c35, c36, c37, c38, c39, c40, c41, c42, c43, c44, u45, u46, u47, u48, u49, u50, u51, u52, u53, u54, u55, u56, u57, u58, u59, u60, u61, u62, u63, u64, u65, u66, u67, u68, u69, u70, u71, u72, u73, u74, u75, u76, u77, u78, u79, u80, u81, u82, u83, u84, u85, u86, u87, u88, u89, u90, u91, u92, u93, u94, u95, u96, u97, u98, u99, u100, u101, u102, u103, u104, u105, u106, u107, u108, u109, u110, u111, u112, u113, u114, u115, u116, u117, u118, u119, u120, u121, u122, u123, u124, u125, u126, u127, u128, u129, u130, u131, u132, u133, u134, u135, u136, u137, u138, u139, u140, u141, u142, u143, u144, u145, u146, u147, u148, u149, u150, u151, u152, u153, u154, u155, u156, u157, u158, u159, u160, u161, u162, u163, u164, u165, u166, u167, u168, u169, u170, u171, u172, u173, u174, u175, u176, u177, u178, u179, u180, u181, u182, u183, u184, u185, u186, u187, u188, u189, u190, u191, u192, u193, u194, u195, u196, u197, u198, u199, u200], [{ target := .fn (.func 286) #[], args := #[.pointer (some ⟨s, 0, none⟩), .int .i64 0] }]⟩
set_option maxRecDepth 1000000 in
set_option maxHeartbeats 4000000 in
theorem db_first (W0 : World) (gq gu gv gh n m k k1 un n1 cv ch v1 rc tu : Nat) (Cq Cu us0 vs zs : List Nat) (U V : Nat) (s : Nat) (c4 c5 c6 c7 c24 c25 c26 c27 c28 c29 c30 c31 c32 c33 c34 c35 c36 c37 c38 c39 c40 c41 c42 c43 c44 u15 u16 u17 u18 u19 u20 u21 u22 u23 u45 u46 u47 u48 u49 u50 u51 u52 u53 u54 u55 u56 u57 u58 u59 u60 u61 u62 u63 u64 u65 u66 u67 u68 u69 u70 u71 u72 u73 u74 u75 u76 u77 u78 u79 u80 u81 u82 u83 u84 u85 u86 u87 u88 u89 u90 u91 u92 u93 u94 u95 u96 u97 u98 u99 u100 u101 u102 u103 u104 u105 u106 u107 u108 u109 u110 u111 u112 u113 u114 u115 u116 u117 u118 u119 u120 u121 u122 u123 u124 u125 u126 u127 u128 u129 u130 u131 u132 u133 u134 u135 u136 u137 u138 u139 u140 u141 u142 u143 u144 u145 u146 u147 u148 u149 u150 u151 u152 u153 u154 u155 u156 u157 u158 u159 u160 u161 u162 u163 u164 u165 u166 u167 u168 u169 u170 u171 u172 u173 u174 u175 u176 u177 u178 u179 u180 u181 u182 u183 u184 u185 u186 u187 u188 u189 u190 u191 u192 u193 u194 u195 u196 u197 u198 u199 u200 : Value) (wr : World) (Q0 : Exit → Act → World → Prop) (c : DbCtx W0 gq gu gv gh n m k k1 un n1 cv ch v1 rc tu Cq Cu us0 vs zs U V) (hM : DivMem W0 wr gu gq gh un n m Cu Cq us0 zs) :
  Code.wp Tryz.prog dbBody (Exit.then (fun a' w' => DbI W0 gq gu gv gh n m k k1 un n1 cv ch v1 rc tu Cq Cu us0 vs zs U V s c4 c5 c6 c7 c24 c25 c26 c27 c28 c29 c30 c31 c32 c33 c34 c35 c36 c37 c38 c39 c40 c41 c42 c43 c44 a' w' ∧ (intOf (a'.tmps.getD 14 undef) + 1).toNat < (intOf (.int .i64 (m : Int)) + 1).toNat) Q0)
   ⟨#[.slice (some ⟨gq, 0, none⟩) m Cq.length, .pointer (some ⟨s, 0, none⟩), .slice (some ⟨gu, 0, none⟩) un Cu.length, .slice (some ⟨gv, 0, none⟩) n cv, c4, c5, c6, c7, .int .i64 (n : Int), .int .i64 (m : Int), .slice (some ⟨gh, 0, none⟩) n1 ch, .int .u64 (v1 : Int), .int .u64 (rc : Int), (.int .u64 ((0 : Nat) : Int)), (.int .i64 (m : Int)), u15, u16, u17, u18, u19, u20, u21, u22, u23, c24, c25, c26, c27, c28, c29, c30, c31, c32, c33, c34, c35, c36, c37, c38, c39, c40, c41, c42, c43, c44, u45, u46, u47, u48, u49, u50, u51, u52, u53, u54, u55, u56, u57, u58, u59, u60, u61, u62, u63, u64, u65, u66, u67, u68, u69, u70, u71, u72, u73, u74, u75, u76, u77, u78, u79, u80, u81, u82, u83, u84, u85, u86, u87, u88, u89, u90, u91, u92, u93, u94, u95, u96, u97, u98, u99, u100, u101, u102, u103, u104, u105, u106, u107, u108, u109, u110, u111, u112, u113, u114, u115, u116, u117, u118, u119, u120, u121, u122, u123, u124, u125, u126, u127, u128, u129, u130, u131, u132, u133, u134, u135, u136, u137, u138, u139, u140, u141, u142, u143, u144, u145, u146, u147, u148, u149, u150, u151, u152, u153, u154, u155, u156, u157, u158, u159, u160, u161, u162, u163, u164, u165, u166, u167, u168, u169, u170, u171, u172, u173, u174, u175, u176, u177, u178, u179, u180, u181, u182, u183, u184, u185, u186, u187, u188, u189, u190, u191, u192, u193, u194, u195, u196, u197, u198, u199, u200], [{ target := .fn (.func 286) #[], args := #[.pointer (some ⟨s, 0, none⟩), .int .i64 0] }]⟩ wr := by
 obtain ⟨hv0, hqL, hm0, hm, hvn, wv, wu, htu, hv1, hnorm, htop, h1, h2, h3, hcv, hn4, huL, hun, hn1, hk1, hk, hch, hD, husl, hV, hU, hzs, hzl, hghu, hghq, hghv, hvm⟩ := c
 have hD := Lib.hid hD
 have e1 : (un : Int) - n = m := by omega
 have e2 : (n : Int) + 1 = n1 := by omega
 have e3 : (n : Int) - 1 = k1 := by omega
 have e4 : (n : Int) - 2 = k := by omega
 have hkH := Lib.hid hk
 have hnH := Lib.hid (show k1 < n ∧ k < n by omega)
 clear hk
 have t1 : (k1 : Int) < n := by have := hnH.out; omega
 have t1' : (0 : Int) ≤ k1 := by omega
 obtain ⟨hkv, hv1e⟩ := List.getElem?_eq_some_iff.1 hv1
 have wk1 := wv.get k1 hkv
 rw [hv1e] at wk1
 have hvnz : v1 ≠ 0 := by
  have := WB_pos
  omega
 conv => arg 2; whnf
 obtain ⟨Ch', hCb, hCl⟩ := hM.hb
 have huv := (VecOut.mk (w := W0) (w' := wr) (bz := gu) (oz := 0) (C := Cu) (zs := us0) (n := un) hM.ul hM.uw hM.ub)
 have hgvT : ¬ (gv = gu ∨ gv = gq ∨ gv = gh) := by rintro (e | e | e) <;> first | exact h2 e | exact h3 e | exact hghv e.symm
 have hvr := hv0.kept hM.keep hgvT
 have hlo : (over Cu 0 us0).length = Cu.length := over_length _ _ _ (by rw [hM.ul]; omega)
 have hur : Vec wr gu 0 us0 := fun i hi => by
  have hiu : i < un := by rw [← hM.ul]; exact hi
  rw [Nat.zero_add, cellOf hM.ub]
  have := over_get_in Cu 0 us0 i (Nat.zero_le _) (by omega) (by omega)
  rw [Nat.sub_zero, List.getElem?_eq_getElem hi] at this
  simp [u64s, this]
 clear huv
 have cv2 := hvr k (by have := hnH.out; omega)
 rw [Nat.zero_add] at cv2
 obtain ⟨v2, hv2⟩ : ∃ v2, vs[k]'(by have := hnH.out; omega) = v2 := ⟨_, rfl⟩
 have wv2 : v2 < WB := by rw [← hv2]; exact wv.get k (by have := hnH.out; omega)
 rw [hv2] at cv2
 have e5 : (m : Int) + n = un := by omega
 obtain ⟨u1, hu1⟩ : ∃ u1, un - 1 = u1 := ⟨_, rfl⟩
 obtain ⟨u2, hu2⟩ : ∃ u2, un - 2 = u2 := ⟨_, rfl⟩
 have e6 : (un : Int) - 1 = u1 := by omega
 have e7 : (un : Int) - 2 = u2 := by have := hnH.out; omega
 have cu1 := hur u1 (by rw [husl]; omega)
 have cu2 := hur u2 (by rw [husl]; omega)
 rw [hun, hu1] at htu
 obtain ⟨hil, htu'⟩ := List.getElem?_eq_some_iff.1 htu
 rw [Nat.zero_add, htu'] at cu1
 rw [Nat.zero_add] at cu2
 have wu2 := wu.get u2 (by rw [husl]; omega)
 generalize us0[u2] = x2 at *
 have htl : tu < WB := by omega
 have hP1 := hD.out 0 tu (by omega) htl wr
 rw [Nat.zero_mul, Nat.zero_add, Nat.div_eq_of_lt htop, Nat.mod_eq_of_lt htop] at hP1
 have hP2 := mulWW_any 0 v2 WB_pos wv2 wr
 have hP3 := greaterThan_any 0 0 tu x2 wr WB_pos wu2
 have ez : macH 0 v2 0 = 0 ∧ macL 0 v2 0 = 0 := by unfold macH macL; simp
 rw [ez.1, ez.2] at hP2
 rw [show decide (tu * WB + x2 < 0 * WB + 0) = false by simp] at hP3
 have hP1 := Lib.hid hP1
 have hP2 := Lib.hid hP2
 have hP3 := Lib.hid hP3
 have b1 : (u1 : Int) < un := by omega
 have b2 : (u2 : Int) < un := by omega
 have b3 : ((0 : Nat) : Int) ≠ v1 := by omega
 have b4 : (k : Int) < n := by have := hnH.out; omega
 go_wp2_with fail
 refine hP1.out.mono ?_
 rintro e w2 ⟨rfl, hw2⟩
 obtain rfl := hw2.symm
 go_wp2_with fail
 refine hP2.out.mono ?_
 rintro e w2 ⟨rfl, hw2⟩
 obtain rfl := hw2.symm
 go_wp2_with fail
 go_loopw [15, 16, 18, 19] (fun a b c d wx => a = .int .u64 (0 : Nat) ∧ b = .int .u64 (tu : Nat) ∧ c = .int .u64 (0 : Nat) ∧ d = .int .u64 (0 : Nat) ∧ wx = wr) (fun _ _ _ _ _ => 0)
 case atStart => exact ⟨rfl, rfl, rfl, rfl, rfl⟩
 case round =>
  obtain ⟨rfl, rfl, rfl, rfl, hwx⟩ := hrel
  obtain rfl := hwx.symm
  go_wp2_with fail
  refine hP3.out.mono ?_
  rintro e w2 ⟨rfl, hw2⟩
  obtain rfl := hw2.symm
  have hP4 := Lib.hid (mulAddVWW_any wr gh 0 ch gv 0 cv n 0 0 Ch' vs hCb hvr hvn (by omega) (.inr rfl) wv WB_pos WB_pos (by omega))
  go_wp2_with fail
  refine hP4.out.mono ?_
  rintro e w3 ⟨z4, c4, rfl, hc4, hv4, ho4⟩
  have hz4 : c4 = 0 := by
   have : 0 < WB ^ n := Nat.pow_pos WB_pos
   rw [Nat.mul_zero, Nat.add_zero] at hv4
   have h := (Nat.add_eq_zero_iff.1 hv4).2
   rcases Nat.mul_eq_zero.1 h with h | h
   ·omega
   ·exact h
  subst hz4
  have hv4' : val WB z4 = 0 := by rw [Nat.mul_zero, Nat.add_zero, Nat.mul_zero] at hv4; omega
  have ho5 := ho4.snoc 0 WB_pos (by omega)
  rw [Nat.zero_add] at ho5
  obtain ⟨u4, hu4⟩ := ho4.there (by omega)
  rw [Nat.zero_add] at hu4
  have hf4 := ho4.room n
  have hlo5 : (over Ch' 0 (z4 ++ [0])).length = Ch'.length := over_length _ _ _ (by rw [ho5.len]; omega)
  have c5 : (w3.setCell ⟨gh, n, none⟩ (.int .u64 (0 : Nat))).cell? ⟨gh, n, none⟩ = some (.int .u64 (0 : Nat)) := World.cell?_setCell_same _ _ _ hu4
  rw [show ((0 : Nat) : Int) = 0 from rfl] at c5 ho5
  obtain ⟨w4, hw4⟩ : ∃ w4, w3.setCell ⟨gh, n, none⟩ (.int .u64 0) = w4 := ⟨_, rfl⟩
  rw [hw4] at c5 ho5
  have b5 : (n : Int) < n1 := by omega
  have hk5 := ho5.keep
  have hub5 : Blk w4 gu (over Cu 0 us0) := hM.ub.kept hk5 (fun e => hghu e.symm)
  have ho5' := Lib.hid ho5
  have hw4' := Lib.hid hw4
  clear ho5 hw4
  have e8 : (m : Int) + n1 = un + 1 := by omega
  have e9 : (n1 : Int) - 1 = n := by omega
  have b6 : (un : Int) < un + 1 := by omega
  go_wp2_with fail
  rw [hw4'.out]
  have s1 := midN0 gu un Cu.length m un (by omega) (by omega) (by have := hnH.out; omega)
  rw [show un - m = n by omega] at s1
  have hu5 : VecOut w4.drew w4.drew gu 0 Cu us0 un := ⟨husl, wu, hub5, Keeps.refl _ _⟩
  have hud : Vec w4.drew gu m (us0.drop m) := by have := (hu5.vec huL).drop m; rwa [Nat.zero_add] at this
  have hz5 : Vec w4.drew gh 0 (z4 ++ [0]) := (ho5'.out.drew).vec (by omega)
  have hz6 := hz5.take n
  rw [List.take_append_of_le_length (by rw [ho4.len]; omega), List.take_of_length_le (by rw [ho4.len]; omega)] at hz6
  have hP5 := Lib.hid (subVV_any w4.drew gu m (Cu.length - m) gu m (Cu.length - m) gh 0 ch n (over Cu 0 us0) (us0.drop m) z4 hub5 hud hz6 (by simp [husl]; omega) ho4.len (by rw [hlo]; omega) (.inr rfl) (.inl hghu) (wu.drop m) ho4.words (by omega))
  have w5 : IntKind.i64.wrap (un : Int) = (un : Int) := by rw [IntKind.wrap_i64]; omega
  have t9 : (n : Int) ≤ ch := by omega
  go_still_tail 15, (by kernel_rfl)
  change wpList _ _ _ _ _ w4.drew
  clear w5
  go_wp2_with fail
  refine hP5.out.mono ?_
  rintro e w5 ⟨z5, c5', rfl, hc5, hv5, ho6⟩
  have hz5l : val WB z5 < WB ^ n := by have := val_lt ho6.words; rwa [ho6.len] at this
  rw [hv4', Nat.add_zero] at hv5
  have hc0 : c5' = 0 := by
   rcases (show c5' = 0 ∨ c5' = 1 by omega) with e | e
   ·exact e
   ·subst e; omega
  subst hc0
  have hz5e : z5 = us0.drop m := val_inj ho6.words (wu.drop m) (by rw [ho6.len]; simp [husl]; omega) (by omega)
  have hov5 : over us0 m z5 = us0 := by
   subst hz5e
   unfold over
   rw [List.length_drop, List.drop_of_length_le (show us0.length ≤ m + (us0.length - m) by omega), List.append_nil, List.take_append_drop]
  have hu6 := hu5.within ho6 (by omega) huL
  rw [hov5] at hu6
  have cu6 := (hu6.vec huL) u1 (by rw [husl]; omega)
  rw [Nat.zero_add, htu'] at cu6
  have hk6 : Keeps (fun k => k = gu ∨ k = gq ∨ k = gh) W0 w5 := (hM.keep.trans (ho5'.out.keep.drew) (fun _ _ e => .inr (.inr e))).trans hu6.keep (fun _ _ e => .inl e)
  have hM' : DivMem W0 w5 gu gq gh un n m Cu Cq us0 zs := ⟨husl, wu, hu6.blk, (hM.qk.kept ho5'.out.keep.drew hghq.symm).kept hu6.keep h1, ⟨_, Blk.kept (w := w4.drew) ho5'.out.blk hu6.keep hghu, by rw [hlo5]; omega⟩, hk6⟩
  have b7 : ((m : Int) == m) = true := by simp
  have hM' := Lib.hid hM'
  clear hu6 ho6 hv5
  go_wp2_with fail
  refine ⟨?_, ?measure⟩
  unfold DbI
  (repeat apply Exists.intro)
  refine ⟨?rel, rfl⟩
  case rel => exact ⟨us0, _, m, tu, rfl, rfl, hM'.out, .inr ⟨by omega, Nat.le_refl _, hvm, rfl, .inr (by rw [show m - 1 + n = u1 by omega]; exact htu)⟩⟩
  case measure => simp [intOf]
end Go.Proofs.YtgamldefngehlaaGreatDoor
namespace Go.Proofs.YtgamldefngehlaaGreatDoor
def topK (p s : Nat) : Nat := WB ^ p * 2 ^ (64 - s)
theorem topK_pos (p s : Nat) : 0 < topK p s := Nat.mul_pos (Nat.pow_pos WB_pos) (two_pos _)
theorem top_div {A x1 x0 lo p s : Nat} (hA : A = lo + WB ^ p * (x0 + WB * x1)) (hlo : lo < WB ^ p) (hs : s ≤ 64) : A / topK p s = x1 * 2 ^ s + x0 / 2 ^ (64 - s) := by
 unfold topK
 rw [← Nat.div_div_eq_div_mul, hA, Nat.add_mul_div_left _ _ (Nat.pow_pos WB_pos), Nat.div_eq_of_lt hlo, Nat.zero_add, WB_split hs, Nat.mul_comm (2 ^ s), Nat.mul_assoc, Nat.add_mul_div_left _ _ (two_pos _), Nat.mul_comm (2 ^ s)]
 omega
theorem top_split {xs : List Nat} {p : Nat} (h : xs.length = p + 2) : val WB xs = val WB (xs.take p) + WB ^ p * (xs[p]'(by omega) + WB * xs[p + 1]'(by omega)) := by
 rw [val_split xs p (by omega), val_drop_cons xs p (by omega), val_drop_cons xs (p + 1) (by omega), List.drop_of_length_le (by omega), val_nil, Nat.mul_zero, Nat.add_zero]
theorem top_two {xs : List Nat} {p s : Nat} (h : xs.length = p + 2) (hw : Words WB xs) (hs : s ≤ 64) : val WB xs / topK p s = xs[p + 1]'(by omega) * 2 ^ s + xs[p]'(by omega) / 2 ^ (64 - s) :=
 top_div (top_split h) (val_take_lt hw p) hs
theorem top_one {ys : List Nat} {p s : Nat} (h : ys.length = p + 1) (hw : Words WB ys) (hs : s ≤ 64) : val WB ys / topK p s = ys[p]'(by omega) / 2 ^ (64 - s) := by
 have e := val_top (xs := ys) (n := p) h
 rw [top_div (x1 := 0) (x0 := ys[p]'(by omega)) (lo := val WB (ys.take p)) (by rw [e, Nat.mul_zero, Nat.add_zero]) (val_take_lt hw p) hs]
 omega
theorem top_none {ys : List Nat} {p s : Nat} (h : ys.length ≤ p) (hw : Words WB ys) : val WB ys / topK p s = 0 := by
 refine Nat.div_eq_of_lt (Nat.lt_of_lt_of_le (val_lt hw) ?_)
 unfold topK
 exact Nat.le_trans (Nat.pow_le_pow_right WB_pos h) (Nat.le_mul_of_pos_right _ (two_pos _))
theorem top_bound {xs : List Nat} {p s : Nat} (h : xs.length = p + 2) (hw : Words WB xs) (hs : s ≤ 64) (h1 : xs[p + 1]'(by omega) * 2 ^ s < WB) : val WB xs / topK p s < WB := by
 rw [top_two h hw hs]
 have h2 := shr_lt hs (hw.get p (by omega))
 rw [WB_split hs] at h1 ⊢
 have h3 : xs[p + 1]'(by omega) < 2 ^ (64 - s) := by
  rw [Nat.mul_comm (2 ^ s)] at h1
  exact Nat.lt_of_mul_lt_mul_right h1
 have h4 := Nat.mul_le_mul_right (2 ^ s) h3
 rw [Nat.succ_mul, Nat.mul_comm (2 ^ (64 - s))] at h4
 omega
theorem top_or {s x y : Nat} (h : s ≤ 64) (hx : x * 2 ^ s < WB) (hy : y < WB) : x * 2 ^ s % WB ||| y / 2 ^ (64 - s) = x * 2 ^ s + y / 2 ^ (64 - s) := by
 rw [shl_or h (shr_lt h hy), Nat.mod_eq_of_lt hx]
theorem top_le {xs ys : List Nat} {n : Nat} (hx : xs.length = n + 1) (hy : ys.length = n + 1) (wx : Words WB xs) (h : val WB ys ≤ val WB xs) : ys[n]'(by omega) ≤ xs[n]'(by omega) := by
 have e1 := val_top hx
 have e2 := val_top hy
 have l1 := val_take_lt wx n
 refine Nat.le_of_not_lt fun hl => ?_
 have := Nat.mul_le_mul_left (WB ^ n) hl
 rw [Nat.mul_succ] at this
 omega
end Go.Proofs.YtgamldefngehlaaGreatDoor
