/- Parts of the walk. -/
import Derived.Test.YtgamldefngehlaaGreatDoorM02
import Derived.Test.YtgamldefngehlaaGreatDoorM08
import Derived.Test.YtgamldefngehlaaGreatDoorM09
import Derived.Deep.RegionHeld3
set_option linter.unusedVariables false
set_option linter.unusedSimpArgs false
namespace Go.Proofs.YtgamldefngehlaaGreatDoor
open Go.RowKit
def cmpZ (sx : Bool) (nx : Nat) (sy : Bool) (ny : Nat) : Int := if sx = sy then (if sx = true then - cmpI nx ny else cmpI nx ny) else if sx = true then -1 else 1
set_option maxRecDepth 100000 in
theorem intCmp_any (w : World) (bx by_ gx ox gy oy nx ny : Nat) (sx sy : Bool) (xv yv : Value) (hx : IntAt w bx gx ox sx xv nx) (hy : IntAt w by_ gy oy sy yv ny) (hne : (⟨gx, ox, none⟩ : Addr) ≠ ⟨gy, oy, none⟩) (hl : (digs WB nx).length ≤ 10000) (hl' : (digs WB ny).length ≤ 10000) :
  Calls Tryz.prog 208 #[.pointer (some ⟨gx, ox, none⟩), .pointer (some ⟨gy, oy, none⟩)] w fun e w' => e = .returned (.int .i64 (cmpZ sx nx sy ny)) ∧ ∃ q, w' = w.drewN q := by
 have hE := intEq w ⟨gx, ox, none⟩ ⟨gy, oy, none⟩ hx.known hy.known
 rw [decide_eq_false hne] at hE
 have hC := fun q => Lib.hid (cmp_any (w.drewN q) bx by_ xv yv nx ny hx.nat hy.nat hl hl')
 have c0 := hx.neg
 have c1 := hx.abs
 have d0 := hy.neg
 have d1 := hy.abs
 clear hx hy
 unfold cmpZ
 cases sx <;> cases sy
 ·go_enter Tryz.func208, Tryz.ntmps208
  go_wp2_with fail
  go_region
  go_wp2_with fail
  go_region_law ((go_simp; go_at_call 253; refine (hC 2).out.mono ?_; rintro e w1 ⟨rfl, q, rfl⟩))
  all_goals (go_wp2_with fail; go_ret; exact ⟨rfl, _, rfl⟩)
 ·go_enter Tryz.func208, Tryz.ntmps208
  go_wp2_with fail
  go_region
  go_wp2_with fail
  go_ret
  exact ⟨rfl, 1, rfl⟩
 ·go_enter Tryz.func208, Tryz.ntmps208
  go_wp2_with fail
  go_region
  go_wp2_with fail
  go_ret
  exact ⟨rfl, 1, rfl⟩
 ·have e1 : IntKind.i64.wrap (- (cmpI nx ny)) = - (cmpI nx ny) := by unfold cmpI; split; rfl; split <;> rfl
  go_enter Tryz.func208, Tryz.ntmps208
  go_wp2_with fail
  go_region
  go_wp2_with fail
  go_region_law ((go_simp; go_at_call 253; refine (hC 2).out.mono ?_; rintro e w1 ⟨rfl, q, rfl⟩))
  all_goals (go_wp2_with fail; go_ret; exact ⟨rfl, _, rfl⟩)
theorem IntAt.drew {w : World} {base g o n : Nat} {s : Bool} {v : Value} (h : IntAt w base g o s v n) : IntAt w.drew base g o s v n := ⟨h.known, h.neg, h.abs, h.nat⟩
theorem IntOut.drew {w w1 : World} {base g o n : Nat} {zv v : Value} {s : Bool} (h : IntOut w w1 base g o zv s v n) : IntOut w w1.drew base g o zv s v n := ⟨h.at_.drew, h.keep.drew, h.own, h.rest⟩
theorem IntAt.mid2 {w w1 : World} {base bx by_ gz oz gx ox gy oy nz nx ny : Nat} {sz sx sy : Bool} {zv xv yv v' : Value} {xs : List Nat} (hz : IntAt w base gz oz sz zv nz) (hx : IntAt w bx gx ox sx xv nx) (hy : IntAt w by_ gy oy sy yv ny) (ho : NatOut w w1 base zv v' xs) :
  Mid w1 gz oz gx ox zv xv v' sx ∧ Mid w1 gz oz gy oy zv yv v' sy := ⟨hz.mid hx ho, hz.mid hy ho⟩
set_option maxRecDepth 100000 in
set_option maxHeartbeats 1000000 in
theorem intmul_any (w : World) (base bx by_ gz oz gx ox gy oy nz nx ny : Nat) (sz sx sy : Bool) (zv xv yv : Value) (hz : IntAt w base gz oz sz zv nz) (hx : IntAt w bx gx ox sx xv nx) (hy : IntAt w by_ gy oy sy yv ny) (hne : (⟨gx, ox, none⟩ : Addr) ≠ ⟨gy, oy, none⟩) (hB : base ≤ w.heap.size)
  (hg : Thr w) (hGL : GL ≤ base) (hl : (digs WB nx).length < 40) (hl' : (digs WB ny).length < 40) :
  Calls Tryz.prog 274 #[.pointer (some ⟨gz, oz, none⟩), .pointer none, .pointer (some ⟨gx, ox, none⟩), .pointer (some ⟨gy, oy, none⟩)] w fun e w' => ∃ v', e = .returned (.tuple #[]) ∧ IntOut w w' base gz oz zv (decide (nx * ny ≠ 0) && (sx != sy)) v' (nx * ny) := by
 have hE := intEq w ⟨gx, ox, none⟩ ⟨gy, oy, none⟩ hx.known hy.known
 rw [decide_eq_false hne] at hE
 have hS := Lib.hid (mul_any w.drew base bx by_ zv xv yv (.pointer none) _ nx ny hz.nat hx.nat hy.nat hB ⟨hg.div, hg.mul, hg.sqr, hg.sqrK⟩ hGL hl hl')
 have c1 := hz.abs
 have c2 := hx.abs
 have c3 := hy.abs
 have hM := Lib.hid (fun (w1 : World) (v' : Value) (ho : NatOut w.drew w1 base zv v' (digs WB (nx * ny))) => And.intro (hz.mid2 hx hy ho.undrew) (hz.store ho.undrew (decide (nx * ny ≠ 0) && (sx != sy))))
 clear hz hx hy
 have hd := digs_len_pos WB_one (n := nx * ny)
 generalize nx * ny = n at *
 by_cases h0 : n = 0
 ·have hl0 : (digs WB n).length = 0 := by omega
  have e0 : (decide (n ≠ 0) && (sx != sy)) = false := by simp [h0]
  rw [e0] at hM ⊢
  go_enter Tryz.func274, Tryz.ntmps274
  go_wp2_with fail
  go_region_law ((go_simp; go_at_call 296; refine hS.out.mono ?_; rintro e w1 ⟨v', rfl, ho⟩; obtain ⟨pv, kv, rfl⟩ := NatRow.form ho.row; obtain ⟨⟨⟨f1, c1', c2', f0, ⟨u0, c0⟩, cx, cv⟩, ⟨_, _, c3', _, _, cy, _⟩⟩, hst⟩ := hM.out w1 _ ho; have hst := Lib.hid hst; rw [hl0] at cv f0 c0 cx cy ⊢; clear ho))
  all_goals (go_wp2_with fail)
  all_goals go_region
  all_goals (go_wp2_with fail)
  all_goals (go_end0; have := hst.out; rw [hl0] at this; exact ⟨_, rfl, this.drew⟩)
 ·have t0 : (0 : Int) < (digs WB n).length := by have := hd.2 h0; omega
  have e0 : (decide (n ≠ 0) && (sx != sy)) = (sx != sy) := by simp [h0]
  rw [e0] at hM ⊢
  go_enter Tryz.func274, Tryz.ntmps274
  go_wp2_with fail
  go_region_law ((go_simp; go_at_call 296; refine hS.out.mono ?_; rintro e w1 ⟨v', rfl, ho⟩; obtain ⟨pv, kv, rfl⟩ := NatRow.form ho.row; obtain ⟨⟨⟨f1, c1', c2', f0, ⟨u0, c0⟩, cx, cv⟩, ⟨_, _, c3', _, _, cy, _⟩⟩, hst⟩ := hM.out w1 _ ho; have hst := Lib.hid hst; clear ho))
  all_goals (go_wp2_with fail)
  all_goals go_region
  all_goals (go_wp2_with fail)
  all_goals (go_end0; exact ⟨_, rfl, hst.out.drew⟩)
set_option maxRecDepth 100000 in
theorem intMul_any (w : World) (base bx by_ gz oz gx ox gy oy nz nx ny : Nat) (sz sx sy : Bool) (zv xv yv : Value) (hz : IntAt w base gz oz sz zv nz) (hx : IntAt w bx gx ox sx xv nx) (hy : IntAt w by_ gy oy sy yv ny) (hne : (⟨gx, ox, none⟩ : Addr) ≠ ⟨gy, oy, none⟩) (hB : base ≤ w.heap.size)
  (hg : Thr w) (hGL : GL ≤ base) (hl : (digs WB nx).length < 40) (hl' : (digs WB ny).length < 40) :
  Calls Tryz.prog 224 #[.pointer (some ⟨gz, oz, none⟩), .pointer (some ⟨gx, ox, none⟩), .pointer (some ⟨gy, oy, none⟩)] w fun e w' => ∃ v', e = .returned (.pointer (some ⟨gz, oz, none⟩)) ∧ IntOut w w' base gz oz zv (decide (nx * ny ≠ 0) && (sx != sy)) v' (nx * ny) := by
 have hS := Lib.hid (intmul_any w base bx by_ gz oz gx ox gy oy nz nx ny sz sx sy zv xv yv hz hx hy hne hB hg hGL hl hl')
 clear hz hx hy
 go_enter Tryz.func224, Tryz.ntmps224
 go_wp2_with fail
 refine hS.out.mono ?_
 rintro e w1 ⟨v', rfl, ho⟩
 have ho := Lib.hid ho
 go_wp2_with fail
 go_ret
 exact ⟨_, rfl, ho.out⟩
end Go.Proofs.YtgamldefngehlaaGreatDoor
namespace Go.Proofs.YtgamldefngehlaaGreatDoor
open Go.RowKit
structure DivOut (w w' : World) (base : Nat) (zv z2 q r : Value) (a b : Nat) : Prop where
 quo : NatAt w' base q (a / b)
 rem : NatAt w' base r (a % b)
 keep : Keeps (fun k => zv.ownBlock = some k ∨ z2.ownBlock = some k) w w'
 ownq : ∀ k, q.ownBlock = some k → zv.ownBlock = some k ∨ w.heap.size ≤ k
 ownr : ∀ k, r.ownBlock = some k → z2.ownBlock = some k ∨ w.heap.size ≤ k
 apart : ∀ k, q.ownBlock = some k → r.ownBlock ≠ some k
set_option maxRecDepth 100000 in
set_option maxHeartbeats 1000000 in
theorem divW_row (w : World) (base bx by_ : Nat) (zv z2 xv yv stk : Value) (zs z2s : List Nat) (a b : Nat) (h : NatRow w base zv zs) (h2 : NatRow w base z2 z2s) (hx : NatAt w bx xv a) (hy : NatAt w by_ yv b) (hap : ∀ k, zv.ownBlock = some k → z2.ownBlock ≠ some k) (hB : base ≤ w.heap.size) (hl : (digs WB a).length ≤ 10000) (hb0 : b ≠ 0) (hb : b < WB) :
  Calls Tryz.prog 210 #[zv, stk, z2, xv, yv] w fun e w' => ∃ q r, e = .returned (.tuple #[q, r]) ∧ DivOut w w' base zv z2 q r a b := by
 have hyd : digs WB b = [b] := digs_small WB_one hb0 hb
 have hyr : NatRow w by_ yv [b] := by rw [← hyd]; exact hy
 obtain ⟨gy, Cy, rfl, hby, hCy, hwy, hty, h0y, hly, hyC⟩ := hyr.mk' (by simp)
 have hvy := hCy.row (xs := [b]) hty (by simpa using hyC)
 have cy := hvy 0 (by simp)
 rw [Nat.zero_add] at cy
 simp only [List.length_cons, List.length_nil, Nat.zero_add, List.getElem_cons_zero] at cy ⊢
 have hD := Lib.hid (divW_any w base bx b zv xv zs a h hx hB hl hb0 hb)
 have hbs : a % b < WB := Nat.lt_trans (Nat.mod_lt _ (by omega)) hb
 go_enter_defers Tryz.func210, Tryz.ntmps210
 go_wp2_with fail
 refine hD.out.mono ?_
 rintro e w1 ⟨q, rfl, ho⟩
 have hz2 := h2.kept ho.keep (fun k hk e => hap k e hk)
 have hS := Lib.hid (setWord_any w1 base z2 z2s (a % b) hz2 hbs (Nat.le_trans hB ho.keep.size))
 generalize hr : a % b = r at *
 go_wp2_with fail
 refine hS.out.mono ?_
 rintro e w2 ⟨r', rfl, ho2⟩
 have hrl := (ho2.row)
 have hapq : ∀ k, q.ownBlock = some k → z2.ownBlock ≠ some k := fun k hk e => by
  rcases ho.own k hk with h1 | h1
  ·exact hap k h1 e
  ·have := (h2.lt k e).2; omega
 have hD : DivOut w w2 base zv z2 q r' a b := by
  refine ⟨NatRow.kept ho.row ho2.keep hapq, by rw [hr]; exact ho2.row, (ho.keep.mono (fun _ _ x => .inl x)).trans ho2.keep (fun _ _ x => .inr x), ho.own, fun k hk => ?_, fun k hk e => ?_⟩
  ·rcases ho2.own k hk with h1 | h1
   ·exact .inl h1
   ·exact .inr (Nat.le_trans ho.keep.size h1)
  ·rcases ho2.own k e with h1 | h1
   ·exact hapq k hk h1
   ·have := (NatRow.lt ho.row k hk).2; omega
 have hD := Lib.hid hD
 go_wp2_with fail
 refine ⟨.tuple #[q, r'], by simp [results, Tryz.results210, go_sem], q, r', rfl, hD.out⟩
end Go.Proofs.YtgamldefngehlaaGreatDoor
namespace Go.Proofs.YtgamldefngehlaaGreatDoor
open Go.RowKit
theorem Keeps.dropStk {w w' : World} {T : Nat → Prop} {s : Nat} (h : Keeps (fun k => T k ∨ k = s) w w') (h1 : StkNew w s) (h2 : StkNew w' s) : Keeps T w w' :=
 ⟨h.os, h.tape, h.output, h.size, fun k hk hT => by
  by_cases e : k = s
  ·subst e
   exact Eq.trans h2 (Eq.symm h1)
  ·exact h.blk k hk (fun x => x.elim hT e)⟩
set_option maxRecDepth 100000 in
set_option maxHeartbeats 1000000 in
theorem divLess_any (w : World) (base bx by_ : Nat) (zv z2 xv yv stk : Value) (zs z2s : List Nat) (a b : Nat) (h : NatRow w base zv zs) (h2 : NatRow w base z2 z2s) (hx : NatAt w bx xv a) (hy : NatAt w by_ yv b) (hap : ∀ k, zv.ownBlock = some k → z2.ownBlock ≠ some k) (hB : base ≤ w.heap.size) (hl : (digs WB b).length ≤ 10000) (hb : WB ≤ b) (hab : a < b) :
  Calls Tryz.prog 210 #[zv, stk, z2, xv, yv] w fun e w' => ∃ q r, e = .returned (.tuple #[q, r]) ∧ DivOut w w' base zv z2 q r a b := by
 have hl2 : 1 < (digs WB b).length := by
  rcases Nat.lt_or_ge 1 (digs WB b).length with h | h
  ·exact h
  ·have := (digs_length_le WB_one).1 h
   rw [Nat.pow_one] at this
   omega
 have hla : (digs WB a).length ≤ 10000 := Nat.le_trans (digs_length_mono WB_one (Nat.le_of_lt hab)) hl
 have hC := cmp_any w bx by_ xv yv a b hx hy hla hl
 rw [cmpI_lt hab] at hC
 have hC := Lib.hid hC
 have hS := fun q => Lib.hid (set_any (w.drewN q) base bx z2 xv z2s (digs WB a) h2 hx hB (by omega))
 obtain ⟨p, n, c, hzv, hz0⟩ := h.empty
 subst hzv
 have hq0 : a / b = 0 := Nat.div_eq_of_lt hab
 have hr0 : a % b = a := Nat.mod_eq_of_lt hab
 have hcap : ∃ L, zs.length = L ∧ n = L ∧ n ≤ c := by
  rcases h with ⟨hv, e⟩ | ⟨g, C, hv, -, -, -, ht, -⟩
  ·injection hv with h1 h3 h4
   subst e
   exact ⟨0, rfl, h3, by omega⟩
  ·injection hv with h1 h3 h4
   refine ⟨_, rfl, h3, ?_⟩
   rw [h3, h4, ← ht]
   simp
   omega
 obtain ⟨L, -, -, hnc⟩ := hcap
 obtain ⟨px, cx, rfl⟩ := NatRow.form hx
 obtain ⟨py, cy, rfl⟩ := NatRow.form hy
 have hfin := Lib.hid (fun (q : Nat) (w1 : World) (r : Value) (ho : NatOut (w.drewN q) w1 base z2 r (digs WB a)) => (show DivOut w w1 base (.slice p n c) z2 (.slice p 0 c) r a b from by
  have hk : Keeps (fun k => z2.ownBlock = some k) w w1 := ⟨ho.keep.os, ho.keep.tape, ho.keep.output, ho.keep.size, ho.keep.blk⟩
  have hap' : ∀ k, (Value.slice p 0 c).ownBlock = some k → z2.ownBlock ≠ some k := fun k hk => hap k (by cases p <;> first | exact hk | simp [Value.ownBlock] at hk)
  refine ⟨by rw [hq0]; unfold NatAt; rw [digs_zero]; exact hz0.kept hk (fun k h1 h2 => hap' k h1 h2), by rw [hr0]; exact ho.row, hk.mono (fun _ _ x => .inr x), fun k hk => .inl (by cases p <;> first | exact hk | simp [Value.ownBlock] at hk), ho.own, fun k h1 e => ?_⟩
  rcases ho.own k e with h3 | h3
  ·exact hap' k h1 h3
  ·have := (NatRow.lt hz0 k h1).2
   have : w.heap.size ≤ k := h3
   omega))
 generalize digs WB a = xs at *
 generalize digs WB b = ys at *
 obtain ⟨m, hm⟩ : ∃ m, ys.length = m := ⟨_, rfl⟩
 rw [hm] at hC hl2 ⊢
 have t1 : ((m : Int) == 0) = false := by simp; omega
 have t2 : ((m : Int) == 1) = false := by simp; omega
 have t3 : (0 : Int) ≤ c := by omega
 have hnc' := Lib.hid hnc
 clear h h2 hx hy hz0 hq0 hr0 hap hab hm hb hl hla hnc
 go_enter_defers Tryz.func210, Tryz.ntmps210
 go_wp2_with fail
 refine hC.out.mono ?_
 rintro e w1 ⟨rfl, q, rfl⟩
 go_wp2_with fail
 refine (hS q).out.mono ?_
 rintro e w1 ⟨r, rfl, ho⟩
 have hD := Lib.hid (hfin.out q w1 r ho)
 clear ho
 go_wp2_with fail
 exact ⟨.tuple #[.slice p 0 c, r], by simp [results, Tryz.results210, go_sem], .slice p 0 c, r, rfl, hD.out⟩
end Go.Proofs.YtgamldefngehlaaGreatDoor
namespace Go.Proofs.YtgamldefngehlaaGreatDoor
open Go.RowKit
theorem IntOut.fresh {w0 w w' : World} {base g o n : Nat} {zv v : Value} {s : Bool} (h : IntOut w w' base g o zv s v n) (hk : Keeps (fun _ => False) w0 w) (hg : w0.heap.size ≤ g) (hv : ∀ k, zv.ownBlock = some k → w0.heap.size ≤ k) : Keeps (fun _ => False) w0 w' :=
 hk.trans h.keep (fun k hk e => e.elim (fun e => by omega) (fun e => by have := hv k e; omega))
theorem IntOut.after {w0 w w' : World} {base g o n : Nat} {zv v : Value} {s : Bool} (h : IntOut w w' base g o zv s v n) (hk : Keeps (fun _ => False) w0 w) (hg : g < w0.heap.size) : IntOut w0 w' base g o zv s v n :=
 ⟨h.at_, (hk.mono (fun _ _ x => x.elim)).trans h.keep (fun _ _ x => x), fun k hk' => (h.own k hk').imp id (fun x => Nat.le_trans hk.size x), fun i h1 h2 => (h.rest i h1 h2).trans (hk.cell (a := ⟨g, i, none⟩) hg (fun x => x))⟩
theorem newAt (w : World) (base : Nat) : IntAt (w.alloc (.cells #[.bool false, .slice none 0 0] 139)) base w.heap.size 0 false (.slice none 0 0) 0 := by
 have hb := blk_new w (.cells #[.bool false, .slice none 0 0] 139 (0, 0))
 exact ⟨⟨_, _, hb⟩, by rw [cellOf hb]; rfl, by rw [cellOf hb]; rfl, by unfold NatAt; rw [digs_zero]; exact .nil _ _⟩
theorem IntAt.drewN {w : World} {base g o n : Nat} {s : Bool} {v : Value} (h : IntAt w base g o s v n) (k : Nat) : IntAt (w.drewN k) base g o s v n := ⟨h.known, h.neg, h.abs, h.nat⟩
theorem IntAt.word {W : World} {base g o c ga p : Nat} {Ca : List Nat} {s : Bool} (h : IntAt W base g o s (.slice (some ⟨ga, 0, none⟩) 1 Ca.length) c) (hb : base ≤ ga) (hC : Blk W ga Ca) (hw : Words WB Ca) (h1 : 1 ≤ Ca.length) (hl : Ca.length ≤ 1000000) (hp0 : p ≠ 0) (hp : p < WB) :
  IntAt (W.setCell ⟨ga, 0, none⟩ (.int .u64 (p : Int))) base g o s (.slice (some ⟨ga, 0, none⟩) 1 Ca.length) p := by
 have hg : ga ≠ g := fun e => NatRow.apart h.nat h.neg (by simp [Value.ownBlock, e])
 refine ⟨h.known.setCell _ _ _, (cell_set_ne (by simp [hg.symm]) _).trans h.neg, (cell_set_ne (by simp [hg.symm]) _).trans h.abs, ?_⟩
 unfold NatAt
 rw [digs_small WB_one hp0 hp]
 have h2 := NatRow.head (n := 1) (xs := [p]) hb (hC.set 0 p) (fun x hx => by
  rcases List.mem_or_eq_of_mem_set hx with h | h
  ·exact hw x h
  ·rw [h]; exact hp) (by simp; omega) (by simpa using hl) (by simpa using h1) (by
  cases Ca with
  | nil => simp at h1
  | cons x xs => simp)
 simpa using h2
theorem Keeps.word {w W : World} (h : Keeps (fun _ => False) w W) {ga : Nat} (hg : w.heap.size ≤ ga) (p : Value) : Keeps (fun _ => False) w (W.setCell ⟨ga, 0, none⟩ p) := h.setCell _ _ (fun hh => absurd hh (by simp; omega))
end Go.Proofs.YtgamldefngehlaaGreatDoor
namespace Go.Proofs.YtgamldefngehlaaGreatDoor
open Go.RowKit
def q4 {α : Type} (a b c d : α) : Fin 4 → α := fun i => match i with
 | 0 => a
 | 1 => b
 | 2 => c
 | 3 => d
theorem q4_ext {α : Type} (f : Fin 4 → α) : f = q4 (f 0) (f 1) (f 2) (f 3) := funext fun i => match i with
 | 0 => rfl
 | 1 => rfl
 | 2 => rfl
 | 3 => rfl
structure Quad (w0 w : World) (g : Fin 4 → Nat) (s : Fin 4 → Bool) (v : Fin 4 → Value) (n : Fin 4 → Nat) : Prop where
 at_ : ∀ i, IntAt w w0.heap.size (g i) 0 (s i) (v i) (n i)
 ge : ∀ i, w0.heap.size ≤ g i
 ne : ∀ i j, i ≠ j → g i ≠ g j
 ap : ∀ i j, i ≠ j → ∀ k, (v i).ownBlock = some k → (v j).ownBlock ≠ some k
 keep : Keeps (fun _ => False) w0 w
theorem Quad.drewN {w0 w : World} {g : Fin 4 → Nat} {s : Fin 4 → Bool} {v : Fin 4 → Value} {n : Fin 4 → Nat} (h : Quad w0 w g s v n) (k : Nat) : Quad w0 (w.drewN k) g s v n :=
 ⟨fun i => (h.at_ i).drewN k, h.ge, h.ne, h.ap, h.keep.drewN k⟩
theorem Quad.fresh {w0 w w' : World} {g : Fin 4 → Nat} {s : Fin 4 → Bool} {v : Fin 4 → Value} {n : Fin 4 → Nat} (h : Quad w0 w g s v n) (hk : Keeps (fun _ => False) w w') : Quad w0 w' g s v n :=
 ⟨fun i => (h.at_ i).kept hk (fun h => h) (fun _ _ h => h), h.ge, h.ne, h.ap, h.keep.trans hk (fun _ _ h => h)⟩
theorem Quad.perm {w0 w : World} {g : Fin 4 → Nat} {s : Fin 4 → Bool} {v : Fin 4 → Value} {n : Fin 4 → Nat} (h : Quad w0 w g s v n) (p : Fin 4 → Fin 4) (hp : ∀ i j, i ≠ j → p i ≠ p j) : Quad w0 w (fun i => g (p i)) (fun i => s (p i)) (fun i => v (p i)) (fun i => n (p i)) :=
 ⟨fun i => h.at_ (p i), fun i => h.ge (p i), fun i j e => h.ne _ _ (hp i j e), fun i j e => h.ap _ _ (hp i j e), h.keep⟩
theorem Quad.put {w0 w w' : World} {g : Fin 4 → Nat} {s : Fin 4 → Bool} {v : Fin 4 → Value} {n : Fin 4 → Nat} (h : Quad w0 w g s v n) (i : Fin 4) {v' : Value} {s' : Bool} {n' : Nat} (ho : IntOut w w' w0.heap.size (g i) 0 (v i) s' v' n') :
  Quad w0 w' g (fun j => if j = i then s' else s j) (fun j => if j = i then v' else v j) (fun j => if j = i then n' else n j) := by
 have hv : ∀ j, j ≠ i → ∀ k, (v j).ownBlock = some k → v'.ownBlock ≠ some k := fun j hj k hk e => by
  rcases ho.own k e with h1 | h1
  ·exact h.ap j i hj k hk h1
  ·have := (NatRow.lt (h.at_ j).nat k hk).2; omega
 refine ⟨fun j => ?_, h.ge, h.ne, fun a b hab k h1 h2 => ?_, h.keep.trans ho.keep (fun k hk e => e.elim (fun e => by have := h.ge i; omega) (fun e => by have := (NatRow.lt (h.at_ i).nat k e).1; omega))⟩
 ·by_cases e : j = i
  ·subst e; simp only [if_true]; exact ho.at_
  ·simp only [if_neg e]
   refine (h.at_ j).kept ho.keep (fun x => x.elim (h.ne j i e) (NatRow.apart (h.at_ i).nat (h.at_ j).neg)) (fun k hk x => x.elim (fun x => ?_) (h.ap j i e k hk))
   exact NatRow.apart (h.at_ j).nat (h.at_ i).neg (by rw [hk, x])
 ·by_cases ea : a = i
  ·by_cases eb : b = i
   ·exact hab (ea.trans eb.symm)
   ·simp only [if_pos ea] at h1
    simp only [if_neg eb] at h2
    exact hv b eb k h2 h1
  ·simp only [if_neg ea] at h1
   by_cases eb : b = i
   ·simp only [if_pos eb] at h2
    exact hv a ea k h1 h2
   ·simp only [if_neg eb] at h2
    exact h.ap a b hab k h1 h2
section
variable {w0 w w' : World} {g0 g1 g2 g3 n0 n1 n2 n3 n' : Nat} {s0 s1 s2 s3 s' : Bool} {v0 v1 v2 v3 v' : Value}
theorem Quad.put0 (h : Quad w0 w (q4 g0 g1 g2 g3) (q4 s0 s1 s2 s3) (q4 v0 v1 v2 v3) (q4 n0 n1 n2 n3)) (ho : IntOut w w' w0.heap.size g0 0 v0 s' v' n') : Quad w0 w' (q4 g0 g1 g2 g3) (q4 s' s1 s2 s3) (q4 v' v1 v2 v3) (q4 n' n1 n2 n3) := by
 have := h.put 0 ho
 rwa [q4_ext (fun j => if j = 0 then s' else q4 s0 s1 s2 s3 j), q4_ext (fun j => if j = 0 then v' else q4 v0 v1 v2 v3 j), q4_ext (fun j => if j = 0 then n' else q4 n0 n1 n2 n3 j)] at this
theorem Quad.put1 (h : Quad w0 w (q4 g0 g1 g2 g3) (q4 s0 s1 s2 s3) (q4 v0 v1 v2 v3) (q4 n0 n1 n2 n3)) (ho : IntOut w w' w0.heap.size g1 0 v1 s' v' n') : Quad w0 w' (q4 g0 g1 g2 g3) (q4 s0 s' s2 s3) (q4 v0 v' v2 v3) (q4 n0 n' n2 n3) := by
 have := h.put 1 ho
 rwa [q4_ext (fun j => if j = 1 then s' else q4 s0 s1 s2 s3 j), q4_ext (fun j => if j = 1 then v' else q4 v0 v1 v2 v3 j), q4_ext (fun j => if j = 1 then n' else q4 n0 n1 n2 n3 j)] at this
theorem Quad.put2 (h : Quad w0 w (q4 g0 g1 g2 g3) (q4 s0 s1 s2 s3) (q4 v0 v1 v2 v3) (q4 n0 n1 n2 n3)) (ho : IntOut w w' w0.heap.size g2 0 v2 s' v' n') : Quad w0 w' (q4 g0 g1 g2 g3) (q4 s0 s1 s' s3) (q4 v0 v1 v' v3) (q4 n0 n1 n' n3) := by
 have := h.put 2 ho
 rwa [q4_ext (fun j => if j = 2 then s' else q4 s0 s1 s2 s3 j), q4_ext (fun j => if j = 2 then v' else q4 v0 v1 v2 v3 j), q4_ext (fun j => if j = 2 then n' else q4 n0 n1 n2 n3 j)] at this
theorem Quad.put3 (h : Quad w0 w (q4 g0 g1 g2 g3) (q4 s0 s1 s2 s3) (q4 v0 v1 v2 v3) (q4 n0 n1 n2 n3)) (ho : IntOut w w' w0.heap.size g3 0 v3 s' v' n') : Quad w0 w' (q4 g0 g1 g2 g3) (q4 s0 s1 s2 s') (q4 v0 v1 v2 v') (q4 n0 n1 n2 n') := by
 have := h.put 3 ho
 rwa [q4_ext (fun j => if j = 3 then s' else q4 s0 s1 s2 s3 j), q4_ext (fun j => if j = 3 then v' else q4 v0 v1 v2 v3 j), q4_ext (fun j => if j = 3 then n' else q4 n0 n1 n2 n3 j)] at this
end
end Go.Proofs.YtgamldefngehlaaGreatDoor
namespace Go.Proofs.YtgamldefngehlaaGreatDoor
open Go.RowKit
set_option maxRecDepth 100000 in
set_option maxHeartbeats 1000000 in
theorem mulW_any (w : World) (base bx gz oz gx ox nz nx y : Nat) (sz sx t : Bool) (zv xv : Value) (hz : IntAt w base gz oz sz zv nz) (hx : IntAt w bx gx ox sx xv nx) (hB : base ≤ w.heap.size) (hl : (digs WB nx).length ≤ 10000) (hy : y < WB) :
  Calls Tryz.prog 257 #[.pointer (some ⟨gz, oz, none⟩), .pointer (some ⟨gx, ox, none⟩), .bool t, .int .u64 y] w fun e w' => ∃ v', e = .returned (.tuple #[]) ∧ IntOut w w' base gz oz zv (sx != t) v' (nx * y) := by
 have hS0 := mulAddWW_any w.drew base bx y 0 zv xv _ _ hz.nat hx.nat hB hl hy WB_pos
 rw [val_digs WB_one, Nat.add_zero] at hS0
 have hS := Lib.hid hS0
 have c1 := hz.abs
 have c2 := hx.abs
 have hM := Lib.hid (fun (w1 : World) (v' : Value) (ho : NatOut w.drew w1 base zv v' (digs WB (nx * y))) => And.intro (hz.mid2 hx hx ho.undrew) (hz.store ho.undrew (sx != t)))
 clear hz hx hS0
 generalize nx * y = n at *
 go_enter Tryz.func257, Tryz.ntmps257
 go_wp2_with fail
 go_region_law ((go_simp; go_at_call 284; refine hS.out.mono ?_; rintro e w1 ⟨v', rfl, ho⟩; obtain ⟨pv, kv, rfl⟩ := NatRow.form ho.row; obtain ⟨⟨⟨f1, c1', c2', f0, ⟨u0, c0⟩, cx, cv⟩, -⟩, hst⟩ := hM.out w1 _ ho; have hst := Lib.hid hst; clear ho))
 all_goals (go_wp2_with fail)
 all_goals (go_end0; exact ⟨_, rfl, hst.out⟩)
def dif (s : Bool) (a b : Nat) : Nat := if s = true then b - a else a - b
set_option maxRecDepth 100000 in
set_option maxHeartbeats 1000000 in
theorem intDiff_any (w : World) (base by_ gz oz gy oy nx ny : Nat) (s : Bool) (zv yv : Value) (hz : IntAt w base gz oz s zv nx) (hy : IntAt w by_ gy oy (!s) yv ny) (hB : base ≤ w.heap.size) (hl : (digs WB nx).length ≤ 10000) (hl' : (digs WB ny).length ≤ 10000) (h : if s = true then nx ≤ ny else ny ≤ nx) :
  Calls Tryz.prog 227 #[.pointer (some ⟨gz, oz, none⟩), .pointer (some ⟨gz, oz, none⟩), .pointer (some ⟨gy, oy, none⟩)] w fun e w' => ∃ v', e = .returned (.pointer (some ⟨gz, oz, none⟩)) ∧ IntOut w w' base gz oz zv false v' (dif s nx ny) := by
 have c0 := hz.neg
 have d0 := hy.neg
 have c1 := hz.abs
 have d1 := hy.abs
 have hC := fun (W : World) (hk : Keeps (fun _ => False) w W) => cmp_any W base by_ zv yv nx ny (NatRow.kept hz.nat hk (fun _ _ h => h)) (NatRow.kept hy.nat hk (fun _ _ h => h)) hl hl'
 have hM := Lib.hid (fun (W w1 : World) (v' : Value) (n : Nat) (hk : Keeps (fun _ => False) w W) (ho : NatOut W.drew w1 base zv v' (digs WB n)) => (show (Mid w1 gz oz gz oz zv zv v' s ∧ Mid w1 gz oz gy oy zv yv v' (!s)) ∧ IntOut w ((w1.setCell ⟨gz, oz + 1, none⟩ v').setCell ⟨gz, oz, none⟩ (.bool false)) base gz oz zv false v' n from by
  have hz' := hz.kept hk (fun h => h) (fun _ _ h => h)
  have hy' := hy.kept hk (fun h => h) (fun _ _ h => h)
  have h3 := hz'.store ho.undrew false
  exact ⟨hz'.mid2 hz' hy' ho.undrew, h3.at_, (hk.mono (fun _ _ x => x.elim)).trans h3.keep (fun _ _ x => x), fun k hk' => (h3.own k hk').imp id (fun x => Nat.le_trans hk.size x), fun i h1 h2 => (h3.rest i h1 h2).trans (hk.cell (a := ⟨gz, i, none⟩) hz.known.lt (fun x => x))⟩))
 have hSx := Lib.hid (fun (W : World) (hk : Keeps (fun _ => False) w W) (hle : ny ≤ nx) => (show Calls Tryz.prog 277 #[zv, zv, yv] W.drew fun e w' => ∃ v', e = .returned v' ∧ NatOut W.drew w' base zv v' (digs WB (nx - ny)) from by
  have := sub_any W.drew base base by_ zv zv yv _ _ _ ((hz.nat).kept hk.drew (fun _ _ h => h)) ((hz.nat).kept hk.drew (fun _ _ h => h)) ((hy.nat).kept hk.drew (fun _ _ h => h)) (Nat.le_trans hB hk.size) hl (digs_length_mono WB_one hle) (by rw [val_digs WB_one, val_digs WB_one]; exact hle) (fun _ => by rw [val_digs WB_one])
  rwa [val_digs WB_one, val_digs WB_one] at this))
 have hSy := Lib.hid (fun (W : World) (hk : Keeps (fun _ => False) w W) (hle : nx ≤ ny) => (show Calls Tryz.prog 277 #[zv, yv, zv] W.drew fun e w' => ∃ v', e = .returned v' ∧ NatOut W.drew w' base zv v' (digs WB (ny - nx)) from by
  have := sub_any W.drew base by_ base zv yv zv _ _ _ ((hz.nat).kept hk.drew (fun _ _ h => h)) ((hy.nat).kept hk.drew (fun _ _ h => h)) ((hz.nat).kept hk.drew (fun _ _ h => h)) (Nat.le_trans hB hk.size) hl' (digs_length_mono WB_one hle) (by rw [val_digs WB_one, val_digs WB_one]; exact hle) (fun _ => by rw [val_digs WB_one])
  rwa [val_digs WB_one, val_digs WB_one] at this))
 have hkd := fun q => (Keeps.refl (fun _ => False) w).drewN q
 clear hz hy
 by_cases hlt : nx < ny
 ·obtain rfl : s = true := by
   cases s
   ·simp at h; omega
   ·rfl
  rw [cmpI_lt hlt] at hC
  have hle : nx ≤ ny := by omega
  have hd := digs_len_pos WB_one (n := ny - nx)
  have t0 : (0 : Int) < (digs WB (ny - nx)).length := by have := hd.2 (by omega); omega
  have hle := Lib.hid hle
  clear h hlt hd
  show Calls _ _ _ _ fun e w' => ∃ v', _ ∧ IntOut w w' base gz oz zv false v' (ny - nx)
  go_enter Tryz.func227, Tryz.ntmps227
  go_wp2_with fail
  go_region
  go_wp2_with fail
  obtain ⟨wA, hwA⟩ : ∃ x, w.drew = x := ⟨_, rfl⟩
  rw [hwA]
  have hkA : Keeps (fun _ => False) w wA := by rw [← hwA]; exact (Keeps.refl _ _).drew
  have cA := hkA.drew.cellS c1 (fun h => h)
  have dA := hkA.drew.cellS d1 (fun h => h)
  have hCC := Lib.hid (hC wA.drew hkA.drew)
  clear hwA hC c0 d0
  go_still_tail 8, (by kernel_rfl)
  change wpList _ _ _ _ _ wA.drew
  go_wp2_with fail
  refine hCC.out.mono ?_
  rintro e w1 ⟨rfl, q, hq⟩
  have hk1 : Keeps (fun _ => False) w w1 := by rw [hq]; exact hkA.drew.drewN q
  have c1' := hk1.cellS c1 (fun h => h)
  have d1' := hk1.cellS d1 (fun h => h)
  have hS1 := Lib.hid (hSy.out w1 hk1 hle.out)
  have hk1 := Lib.hid hk1
  clear hq c1 d1 cA dA
  go_wp2_with fail
  go_region_law ((go_simp; go_at_call 277; refine hS1.out.mono ?_; rintro e w2 ⟨v', rfl, ho⟩; obtain ⟨pv, kv, rfl⟩ := NatRow.form ho.row; obtain ⟨⟨⟨f1, c1'', c2', f0, ⟨u0, c0⟩, cx, cv⟩, ⟨_, _, c3', _, _, cy, _⟩⟩, hst⟩ := hM.out w1 w2 _ _ hk1.out ho; have hst := Lib.hid hst; clear ho))
  all_goals (go_wp2_with fail)
  all_goals (go_ret; exact ⟨_, rfl, hst.out⟩)
 ·have hcm : ¬ (cmpI nx ny) < 0 := by unfold cmpI; rw [if_neg hlt]; split <;> omega
  generalize hcn : cmpI nx ny = cm at *
  have hle : ny ≤ nx := by omega
  have hle := Lib.hid hle
  clear hcn
  cases s
  ·have hd := digs_len_pos WB_one (n := nx - ny)
   clear h hlt
   show Calls _ _ _ _ fun e w' => ∃ v', _ ∧ IntOut w w' base gz oz zv false v' (nx - ny)
   by_cases h0 : nx - ny = 0
   ·have t0 : ¬ (0 : Int) < (digs WB (nx - ny)).length := by rw [h0, digs_zero]; simp
    clear hd h0
    go_enter Tryz.func227, Tryz.ntmps227
    go_wp2_with fail
    go_region
    go_wp2_with fail
    obtain ⟨wA, hwA⟩ : ∃ x, w.drew = x := ⟨_, rfl⟩
    rw [hwA]
    have hkA : Keeps (fun _ => False) w wA := by rw [← hwA]; exact (Keeps.refl _ _).drew
    have cA := hkA.drew.cellS c1 (fun h => h)
    have dA := hkA.drew.cellS d1 (fun h => h)
    have hCC := Lib.hid (hC wA.drew hkA.drew)
    clear hwA hC c0 d0
    go_still_tail 8, (by kernel_rfl)
    change wpList _ _ _ _ _ wA.drew
    go_wp2_with fail
    refine hCC.out.mono ?_
    rintro e w1 ⟨rfl, q, hq⟩
    have hk1 : Keeps (fun _ => False) w w1 := by rw [hq]; exact hkA.drew.drewN q
    have c1' := hk1.cellS c1 (fun h => h)
    have d1' := hk1.cellS d1 (fun h => h)
    have hS1 := Lib.hid (hSx.out w1 hk1 hle.out)
    have hk1 := Lib.hid hk1
    clear hq c1 d1 cA dA
    go_wp2_with fail
    go_region_law ((go_simp; go_at_call 277; refine hS1.out.mono ?_; rintro e w2 ⟨v', rfl, ho⟩; obtain ⟨pv, kv, rfl⟩ := NatRow.form ho.row; obtain ⟨⟨⟨f1, c1'', c2', f0, ⟨u0, c0⟩, cx, cv⟩, ⟨_, _, c3', _, _, cy, _⟩⟩, hst⟩ := hM.out w1 w2 _ _ hk1.out ho; have hst := Lib.hid hst; clear ho))
    all_goals (go_wp2_with fail)
    all_goals (go_ret; exact ⟨_, rfl, hst.out⟩)
   ·have t0 : (0 : Int) < (digs WB (nx - ny)).length := by have := hd.2 h0; omega
    clear hd h0
    go_enter Tryz.func227, Tryz.ntmps227
    go_wp2_with fail
    go_region
    go_wp2_with fail
    obtain ⟨wA, hwA⟩ : ∃ x, w.drew = x := ⟨_, rfl⟩
    rw [hwA]
    have hkA : Keeps (fun _ => False) w wA := by rw [← hwA]; exact (Keeps.refl _ _).drew
    have cA := hkA.drew.cellS c1 (fun h => h)
    have dA := hkA.drew.cellS d1 (fun h => h)
    have hCC := Lib.hid (hC wA.drew hkA.drew)
    clear hwA hC c0 d0
    go_still_tail 8, (by kernel_rfl)
    change wpList _ _ _ _ _ wA.drew
    go_wp2_with fail
    refine hCC.out.mono ?_
    rintro e w1 ⟨rfl, q, hq⟩
    have hk1 : Keeps (fun _ => False) w w1 := by rw [hq]; exact hkA.drew.drewN q
    have c1' := hk1.cellS c1 (fun h => h)
    have d1' := hk1.cellS d1 (fun h => h)
    have hS1 := Lib.hid (hSx.out w1 hk1 hle.out)
    have hk1 := Lib.hid hk1
    clear hq c1 d1 cA dA
    go_wp2_with fail
    go_region_law ((go_simp; go_at_call 277; refine hS1.out.mono ?_; rintro e w2 ⟨v', rfl, ho⟩; obtain ⟨pv, kv, rfl⟩ := NatRow.form ho.row; obtain ⟨⟨⟨f1, c1'', c2', f0, ⟨u0, c0⟩, cx, cv⟩, ⟨_, _, c3', _, _, cy, _⟩⟩, hst⟩ := hM.out w1 w2 _ _ hk1.out ho; have hst := Lib.hid hst; clear ho))
    all_goals (go_wp2_with fail)
    all_goals (go_ret; exact ⟨_, rfl, hst.out⟩)
  ·have h0 : nx - ny = 0 := by simp at h; omega
   have h00 : ny - nx = 0 := by have := hle.out; simp at h; omega
   have t0 : ¬ (0 : Int) < (digs WB (nx - ny)).length := by rw [h0, digs_zero]; simp
   clear h hlt
   show Calls _ _ _ _ fun e w' => ∃ v', _ ∧ IntOut w w' base gz oz zv false v' (ny - nx)
   rw [h00, ← h0]
   clear h0 h00
   go_enter Tryz.func227, Tryz.ntmps227
   go_wp2_with fail
   go_region
   go_wp2_with fail
   obtain ⟨wA, hwA⟩ : ∃ x, w.drew = x := ⟨_, rfl⟩
   rw [hwA]
   have hkA : Keeps (fun _ => False) w wA := by rw [← hwA]; exact (Keeps.refl _ _).drew
   have cA := hkA.drew.cellS c1 (fun h => h)
   have dA := hkA.drew.cellS d1 (fun h => h)
   have hCC := Lib.hid (hC wA.drew hkA.drew)
   clear hwA hC c0 d0
   go_still_tail 8, (by kernel_rfl)
   change wpList _ _ _ _ _ wA.drew
   go_wp2_with fail
   refine hCC.out.mono ?_
   rintro e w1 ⟨rfl, q, hq⟩
   have hk1 : Keeps (fun _ => False) w w1 := by rw [hq]; exact hkA.drew.drewN q
   have c1' := hk1.cellS c1 (fun h => h)
   have d1' := hk1.cellS d1 (fun h => h)
   have hS1 := Lib.hid (hSx.out w1 hk1 hle.out)
   have hk1 := Lib.hid hk1
   clear hq c1 d1 cA dA
   go_wp2_with fail
   go_region_law ((go_simp; go_at_call 277; refine hS1.out.mono ?_; rintro e w2 ⟨v', rfl, ho⟩; obtain ⟨pv, kv, rfl⟩ := NatRow.form ho.row; obtain ⟨⟨⟨f1, c1'', c2', f0, ⟨u0, c0⟩, cx, cv⟩, ⟨_, _, c3', _, _, cy, _⟩⟩, hst⟩ := hM.out w1 w2 _ _ hk1.out ho; have hst := Lib.hid hst; clear ho))
   all_goals (go_wp2_with fail)
   all_goals (go_ret; exact ⟨_, rfl, hst.out⟩)
end Go.Proofs.YtgamldefngehlaaGreatDoor
namespace Go.Proofs.YtgamldefngehlaaGreatDoor
open Go.RowKit
structure LehNew (a b u0 u1 v0 v1 : Nat) (ev : Bool) (A1 A2 : Nat) : Prop where
 le1 : if (false != !ev) = true then a * u0 ≤ b * v0 else b * v0 ≤ a * u0
 le2 : if (false != !ev) = true then b * v1 ≤ a * u1 else a * u1 ≤ b * v1
 eq1 : A1 = dif (false != !ev) (a * u0) (b * v0)
 eq2 : A2 = dif (false != !ev) (b * v1) (a * u1)
theorem LehOut.new {a b u0 u1 v0 v1 : Nat} {ev : Bool} (h : LehOut a b u0 u1 v0 v1 ev) (h0 : v0 ≠ 0) : ∃ A1 A2, LehNew a b u0 u1 v0 v1 ev A1 A2 ∧ A2 < A1 ∧ A1 ≤ b ∧ Nat.gcd A1 A2 = Nat.gcd a b := by
 obtain ⟨A1, A2, hc, h1, h2, h3⟩ := h h0
 refine ⟨A1, A2, ?_, h1, h2, h3⟩
 unfold Coseq at hc
 rw [Nat.mul_comm u0, Nat.mul_comm u1, Nat.mul_comm v0, Nat.mul_comm v1] at hc
 cases ev
 ·simp only [Bool.not_false, if_true] at hc
  constructor <;> simp [dif] <;> omega
 ·simp only [Bool.not_true, Bool.false_eq_true, if_false] at hc
  constructor <;> simp [dif] <;> omega
theorem len_mulW {x y : Nat} (n : Nat) (h1 : (digs WB x).length ≤ n) (h2 : y < WB) : (digs WB (x * y)).length ≤ n + 1 := by
 have h3 := (digs_length_le WB_one).1 h1
 refine (digs_length_le WB_one).2 (Nat.lt_of_lt_of_le (Nat.mul_lt_mul'' h3 h2) ?_)
 rw [← Nat.pow_succ]
 exact Nat.le_refl _
set_option maxRecDepth 100000 in
set_option maxHeartbeats 1000000 in
theorem lehUpdate_any (w0 w : World) (gA gB gq gr a b nq nr u0 u1 v0 v1 A1 A2 : Nat) (sq sr ev : Bool) (av bv qv rv : Value) (h : Quad w0 w (q4 gA gB gq gr) (q4 false false sq sr) (q4 av bv qv rv) (q4 a b nq nr)) (hla : (digs WB a).length ≤ 900) (hlb : (digs WB b).length ≤ 900)
  (b0 : u0 < WB) (b1 : u1 < WB) (b2 : v0 < WB) (b3 : v1 < WB) (hN : LehNew a b u0 u1 v0 v1 ev A1 A2) :
  Calls Tryz.prog 255 #[.pointer (some ⟨gA, 0, none⟩), .pointer (some ⟨gB, 0, none⟩), .pointer (some ⟨gq, 0, none⟩), .pointer (some ⟨gr, 0, none⟩), .int .u64 u0, .int .u64 u1, .int .u64 v0, .int .u64 v1, .bool ev] w fun e w' =>
   e = .returned (.tuple #[]) ∧ ∃ nq' nr' sq' sr' av' bv' qv' rv', Quad w0 w' (q4 gA gB gq gr) (q4 false false sq' sr') (q4 av' bv' qv' rv') (q4 A1 A2 nq' nr') := by
 have hml : ∀ x y : Nat, (digs WB x).length ≤ 900 → y < WB → (digs WB (x * y)).length ≤ 10000 := fun x y h1 h2 => Nat.le_trans (len_mulW 900 h1 h2) (by decide)
 have l1 := hml a u0 hla b0
 have l2 := hml b v0 hlb b2
 have l3 := hml b v1 hlb b3
 have l4 := hml a u1 hla b1
 have hs : ∀ e : Bool, (false != e) = !(false != !e) := fun e => by cases e <;> rfl
 have hC1 := Lib.hid (mulW_any w w0.heap.size w0.heap.size gq 0 gB 0 nq b v0 sq false ev qv bv (h.at_ 2) (h.at_ 1) h.keep.size (by omega) b2)
 obtain ⟨hle1, hle2, heq1, heq2⟩ := hN
 have hle1 := Lib.hid hle1
 have hle2 := Lib.hid hle2
 have hh := Lib.hid h
 clear h
 go_enter Tryz.func255, Tryz.ntmps255
 go_wp2_with fail
 refine hC1.out.mono ?_
 rintro e w1 ⟨v1', rfl, ho⟩
 have h1 := hh.out.put2 ho
 have hC2 := Lib.hid (mulW_any w1 w0.heap.size w0.heap.size gr 0 gA 0 nr a u1 sr false ev rv av (h1.at_ 3) (h1.at_ 0) h1.keep.size (by omega) b1)
 have hh := Lib.hid h1
 clear h1 ho
 go_wp2_with fail
 refine hC2.out.mono ?_
 rintro e w2 ⟨v2', rfl, ho⟩
 have h1 := hh.out.put3 ho
 have hC3 := Lib.hid (mulW_any w2 w0.heap.size w0.heap.size gA 0 gA 0 a a u0 false false (!ev) av av (h1.at_ 0) (h1.at_ 0) h1.keep.size (by omega) b0)
 have hh := Lib.hid h1
 clear h1 ho
 go_wp2_with fail
 refine hC3.out.mono ?_
 rintro e w3 ⟨v3', rfl, ho⟩
 have h1 := hh.out.put0 ho
 have hC4 := Lib.hid (mulW_any w3 w0.heap.size w0.heap.size gB 0 gB 0 b b v1 false false (!ev) bv bv (h1.at_ 1) (h1.at_ 1) h1.keep.size (by omega) b3)
 have hh := Lib.hid h1
 clear h1 ho
 go_wp2_with fail
 refine hC4.out.mono ?_
 rintro e w4 ⟨v4', rfl, ho⟩
 have h1 := hh.out.put1 ho
 have hC5 := Lib.hid (intDiff_any w4 w0.heap.size w0.heap.size gA 0 gq 0 (a * u0) (b * v0) (false != !ev) v3' v1' (h1.at_ 0) (by rw [← hs]; exact h1.at_ 2) h1.keep.size l1 l2 hle1.out)
 rw [← heq1] at hC5
 have hh := Lib.hid h1
 clear h1 ho
 go_wp2_with fail
 refine hC5.out.mono ?_
 rintro e w5 ⟨v5', rfl, ho⟩
 have h1 := hh.out.put0 ho
 have hC6 := Lib.hid (intDiff_any w5 w0.heap.size w0.heap.size gB 0 gr 0 (b * v1) (a * u1) (false != !ev) v4' v2' (h1.at_ 1) (by rw [← hs]; exact h1.at_ 3) h1.keep.size l3 l4 hle2.out)
 rw [← heq2] at hC6
 have hh := Lib.hid h1
 clear h1 ho
 go_wp2_with fail
 refine hC6.out.mono ?_
 rintro e w6 ⟨v6', rfl, ho⟩
 have h1 := Lib.hid (hh.out.put1 ho)
 clear ho
 go_wp2_with fail
 go_end0
 exact ⟨rfl, _, _, _, _, _, _, _, _, h1.out⟩
end Go.Proofs.YtgamldefngehlaaGreatDoor
