/- Parts of the walk. -/
import Derived.Test.YthocmhkafgpgbaaGreatDoorM06
import Derived.Lib.SliceRun
import Derived.Deep.RegionHeld3
set_option linter.unusedVariables false
set_option linter.unusedSimpArgs false
namespace Go.Proofs.YthocmhkafgpgbaaGreatDoor
open Go.RowKit
theorem midN (b o n c k h : Nat) (hk : k ≤ h) (hc : h ≤ c) (hkc : k < c) (w : World) :
  (Instr.slice 141 (.slice (some ⟨b, o, none⟩) n c) (some (.int .i64 (k : Int))) (some (.int .i64 (h : Int))) none).run Tryz.prog w = .ok (.slice (some ⟨b, o + k, none⟩) (h - k) (c - k)) w := by
 rw [run_slice_lh w 141 _ _ _ (by rw [elemN]; exact Tryz.underlying141) .i64 .i64 k h (by omega) (by omega) (by omega), elemN, sizeW]
 simp only [Result.andThen, sliced, Int.toNat_natCast, Nat.mul_one]
 simp [show ¬ c = k by omega, Addr.add_lit]
theorem tailN' (b o n c k : Nat) (hk : k ≤ n) (hc : n ≤ c) (hkc : k < c) (w : World) :
  (Instr.slice 141 (.slice (some ⟨b, o, none⟩) n c) (some (.int .i64 (k : Int))) none none).run Tryz.prog w = .ok (.slice (some ⟨b, o + k, none⟩) (n - k) (c - k)) w := by
 rw [tailN b o n c k hk w, subP_lt (by omega)]
theorem midN0 (b n c k h : Nat) (hk : k ≤ h) (hc : h ≤ c) (hkc : k < c) (w : World) :
  (Instr.slice 141 (.slice (some ⟨b, 0, none⟩) n c) (some (.int .i64 (k : Int))) (some (.int .i64 (h : Int))) none).run Tryz.prog w = .ok (.slice (some ⟨b, k, none⟩) (h - k) (c - k)) w := by
 rw [midN b 0 n c k h hk hc hkc w, Nat.zero_add]
theorem tailN0 (b n c k : Nat) (hk : k ≤ n) (hc : n ≤ c) (hkc : k < c) (w : World) :
  (Instr.slice 141 (.slice (some ⟨b, 0, none⟩) n c) (some (.int .i64 (k : Int))) none none).run Tryz.prog w = .ok (.slice (some ⟨b, k, none⟩) (n - k) (c - k)) w := by
 rw [tailN' b 0 n c k hk hc hkc w, Nat.zero_add]
theorem VecOut.rest {w w' : World} {bz oz n : Nat} {C zs : List Nat} (h : VecOut w w' bz oz C zs n) (hz : Blk w bz C) {bx ox : Nat} {xs : List Nat} (hx : Vec w bx ox xs) (ha : bx ≠ bz ∨ ox = oz) (hl : oz + n ≤ C.length) : Vec w' bx (ox + n) (xs.drop n) := fun j hj => by
 simp only [List.length_drop] at hj
 have := h.read hz hx ha hl (n + j) (by omega) (by omega)
 rw [Nat.add_assoc, this]
 simp
theorem VecOut.append {w w1 w2 : World} {g o n m : Nat} {C zs ys : List Nat} (h : VecOut w w1 g o C zs n) (h' : VecOut w1 w2 g (o + n) (over C o zs) ys m) (hl : o + n + m ≤ C.length) : VecOut w w2 g o C (zs ++ ys) (n + m) := by
 obtain ⟨rfl, h2, h3, h4⟩ := h
 obtain ⟨rfl, h2', h3', h4'⟩ := h'
 refine ⟨by simp, h2.append h2', ?_, h4.trans h4' (fun _ _ e => e)⟩
 rw [← over_over C o zs ys hl]; exact h3'
theorem Blk.row {w : World} {g : Nat} {C xs : List Nat} (h : Blk w g C) (ht : C.take xs.length = xs) (hl : xs.length ≤ C.length) : Vec w g 0 xs := by
 have := h.vec 0 xs.length (by omega)
 rwa [List.drop_zero, ht] at this
theorem Vec.keptN {w w' : World} {b o : Nat} {xs : List Nat} (h : Vec w b o xs) (hk : Keeps (fun _ => False) w w') : Vec w' b o xs := h.kept hk (fun h => h)
theorem Made.norm {w w1 w2 : World} {base n m : Nat} {zv : Value} {g N : Nat} {C zs : List Nat} (h : Made w w1 base n zv g C) (hn : 0 < n) (hz : VecOut w1 w2 g 0 C zs n) (hN : val WB zs = N)
  (hm : NatAt w2 base (.slice (some ⟨g, 0, none⟩) m C.length) N) : NatOut w w2 base zv (.slice (some ⟨g, 0, none⟩) m C.length) (digs WB N) :=
 ⟨hm, (h.out hn hz).1.keep, fun k hk => (h.out hn hz).1.own k hk⟩
theorem Made.normCall {w w1 w2 : World} {base n : Nat} {zv : Value} {g N : Nat} {C zs : List Nat} (h : Made w w1 base n zv g C) (hn : 0 < n) (hz : VecOut w1 w2 g 0 C zs n) (hN : val WB zs = N) :
  Calls Tryz.prog 248 #[.slice (some ⟨g, 0, none⟩) n C.length] w2 fun e w' => ∃ v', e = .returned v' ∧ w' = w2 ∧ NatOut w w2 base zv v' (digs WB N) := by
 obtain ⟨_, hb, hw, hl, ht⟩ := h.out hn hz
 have hf := h.fit
 have := norm_row w2 base g n (over C 0 zs) h.base hb hw (by omega) (by omega) (by rw [hl]; exact h.big)
 rw [hl, ht, hN] at this
 refine this.mono ?_
 rintro e w' ⟨m, rfl, rfl, hm, ha⟩
 exact ⟨_, rfl, rfl, h.norm hn hz hN ha⟩
theorem NatRow.form {w : World} {base : Nat} {v : Value} {xs : List Nat} (h : NatRow w base v xs) : ∃ p c, v = .slice p xs.length c := by
 rcases h with ⟨rfl, rfl⟩ | ⟨g, C, rfl, _⟩
 ·exact ⟨_, _, rfl⟩
 ·exact ⟨_, _, rfl⟩
theorem NatRow.mk' {w : World} {base : Nat} {v : Value} {xs : List Nat} (h : NatRow w base v xs) (h0 : 0 < xs.length) : ∃ g C, v = .slice (some ⟨g, 0, none⟩) xs.length C.length ∧ base ≤ g ∧ Blk w g C ∧ Words WB C ∧ C.take xs.length = xs ∧ 0 < C.length ∧ C.length ≤ 1000000 ∧ xs.length ≤ C.length := by
 rcases h with ⟨rfl, rfl⟩ | ⟨g, C, rfl, hb, hC, hw, ht, h1, h2⟩
 ·simp at h0
 ·exact ⟨g, C, rfl, hb, hC, hw, ht, h1, h2, by rw [← ht]; simp; omega⟩
theorem Blk.known {w : World} {g : Nat} {C : List Nat} (h : Blk w g C) : Known w g := ⟨_, _, h⟩
theorem VecOut.known {w w' : World} {bz oz n : Nat} {C zs : List Nat} (h : VecOut w w' bz oz C zs n) {b : Nat} (hb : Known w b) : Known w' b := by
 by_cases e : b = bz
 ·subst e; exact ⟨_, _, h.blk⟩
 ·exact hb.kept (h.keep.blk _ (by obtain ⟨_, _, x⟩ := hb; exact sizeOf_blk x) e)
theorem Keeps.known {w w' : World} (hk : Keeps (fun _ => False) w w') {b : Nat} (hb : Known w b) : Known w' b := hb.kept (hk.blk _ (by obtain ⟨_, _, x⟩ := hb; exact sizeOf_blk x) (fun h => h))
theorem add_end {B : Nat} {zs zs2 xs ys : List Nat} {n k c c2 : Nat} (hz : zs.length = n) (hz2 : zs2.length = k) (hn : n ≤ xs.length) (h1 : val B zs + B ^ n * c = val B (xs.take n) + val B ys) (h2 : val B zs2 + B ^ k * c2 = val B (xs.drop n) + c) :
  val B (zs ++ zs2 ++ [c2]) = val B xs + val B ys := by
 rw [val_snoc, val_append, hz, List.length_append, hz, hz2, Nat.pow_add, val_split xs n hn]
 have := congrArg (B ^ n * ·) h2
 simp only [Nat.mul_add] at this
 rw [Nat.mul_assoc]
 omega
set_option maxRecDepth 100000 in
set_option maxHeartbeats 1000000 in
theorem add_core (w : World) (base bx by_ : Nat) (zv xv yv : Value) (zs xs ys : List Nat) (h : NatRow w base zv zs) (hx : NatRow w bx xv xs) (hy : NatRow w by_ yv ys) (hB : base ≤ w.heap.size) (hl : xs.length ≤ 10000) (hle : ys.length ≤ xs.length)
  (hd : ys = [] → digs WB (val WB xs) = xs) :
  Calls Tryz.prog 275 #[zv, xv, yv] w fun e w' => ∃ v', e = .returned v' ∧ NatOut w w' base zv v' (digs WB (val WB xs + val WB ys)) := by
 have wx := hx.words
 have wy := hy.words
 have t0 : ¬ (xs.length : Int) < ys.length := by omega
 by_cases hx0 : xs.length = 0
 ·obtain rfl : xs = [] := List.eq_nil_of_length_eq_zero hx0
  obtain rfl : ys = [] := List.eq_nil_of_length_eq_zero (by simpa using hle)
  obtain ⟨p, n, c, rfl, h'⟩ := h.empty
  obtain ⟨px, cx, rfl⟩ := hx.form
  obtain ⟨py, cy, rfl⟩ := hy.form
  go_enter Tryz.func275, Tryz.ntmps275
  go_wp2_with fail
  go_ret
  refine ⟨_, rfl, ?_⟩
  rw [val_nil, digs_zero]
  exact .of_empty h'
 ·by_cases hy0 : ys.length = 0
  ·obtain rfl : ys = [] := List.eq_nil_of_length_eq_zero hy0
   have hS := Lib.hid (set_any w base bx zv xv zs xs h hx hB (by omega))
   obtain ⟨px, cx, rfl⟩ := hx.form
   obtain ⟨py, cy, rfl⟩ := hy.form
   have t1 : ¬ (xs.length : Int) = 0 := by omega
   rw [List.length_nil] at t0
   go_enter Tryz.func275, Tryz.ntmps275
   go_wp2_with fail
   refine hS.out.mono ?_
   rintro e w1 ⟨v', rfl, ho⟩
   go_wp2_with fail
   go_ret
   refine ⟨_, rfl, ?_⟩
   rw [val_nil, Nat.add_zero, hd (by simp)]
   exact ho
  ·obtain ⟨gx, Cx, rfl, hbx, hCx, hwx, htx, h0x, hlx, hxC⟩ := hx.mk' (by omega)
   obtain ⟨gy, Cy, rfl, hby, hCy, hwy, hty, h0y, hly, hyC⟩ := hy.mk' (by omega)
   have t1 : ¬ (xs.length : Int) = 0 := by omega
   have t2 : ¬ (ys.length : Int) = 0 := by omega
   obtain ⟨m, hm⟩ : ∃ m, xs.length = m := ⟨_, rfl⟩
   obtain ⟨n, hn⟩ : ∃ n, ys.length = n := ⟨_, rfl⟩
   have hM := make_any w base (m + 1) zv zs h (by omega) (by omega) hB
   have em : ((m + 1 : Nat) : Int) = (m : Int) + 1 := by omega
   rw [em] at hM
   have hM := Lib.hid hM
   rw [hm, hn] at hle
   rw [hm] at hxC t0 t1 hl htx hx0 ⊢
   rw [hn] at hyC t0 t2 hty hy0 ⊢
   have hvx := hCx.row (xs := xs) (by rw [hm]; exact htx) (by omega)
   have hvy := hCy.row (xs := ys) (by rw [hn]; exact hty) (by omega)
   rcases Nat.lt_or_ge n m with hlt | hge
   ·have t3 : (n : Int) < m := by omega
    go_enter Tryz.func275, Tryz.ntmps275
    go_wp2_with fail
    refine hM.out.mono ?_
    rintro e w1 ⟨g, C, rfl, hmd⟩
    have hf := hmd.fit
    have hP := Lib.hid (addVV_any w1.drew g 0 C.length gx 0 Cx.length gy 0 Cy.length n C (xs.take n) ys hmd.drew.blk ((hvx.keptN hmd.drew.keep).take n) (hvy.keptN hmd.drew.keep) (by simp; omega) hn (by omega) (.inr rfl) (.inr rfl) (wx.take n) wy (by omega))
    have t4 : (n : Int) ≤ C.length := by omega
    have t5 : (n : Int) ≤ Cx.length := by omega
    have t6 : (n : Int) ≤ Cy.length := by omega
    go_wp2_with fail
    go_still_tail 9, (by kernel_rfl)
    change wpList _ _ _ _ _ w1.drew
    go_wp2_with fail
    refine hP.out.mono ?_
    rintro e w2 ⟨z1, c1, rfl, hc1, hv1, ho1⟩
    have hr := ho1.rest hmd.drew.blk (hvx.keptN hmd.drew.keep) (.inr rfl) (by omega)
    rw [Nat.zero_add] at hr
    have hlo : (over C 0 z1).length = C.length := over_length _ _ _ (by rw [ho1.len]; omega)
    have hP2 := Lib.hid (addVW_any w2.drew g n (C.length - n) gx n (Cx.length - n) (m - n) c1 (over C 0 z1) (xs.drop n) ho1.blk hr (by simp; omega) (by omega) (.inr rfl) (wx.drop n) (by have := WB_one; omega) (by omega) (by omega) (by omega) (by omega) (ho1.known (hmd.drew.keep.known hCx.known)))
    have s1 := midN0 g (m + 1) C.length n m (by omega) (by omega) (by omega)
    have s2 := tailN0 gx m Cx.length n (by omega) (by omega) (by omega)
    go_wp2_with fail
    go_still_tail 8, (by kernel_rfl)
    change wpList _ _ _ _ _ w2.drew
    go_wp2_with fail
    refine hP2.out.mono ?_
    rintro e w3 ⟨z2, c2, rfl, hc2, hv2, ho2⟩
    have ho3 := ho1.drew.append (m := m - n) (by rw [Nat.zero_add]; exact ho2) (by omega)
    rw [show n + (m - n) = m by omega] at ho3
    have ho4 := ho3.snoc c2 (by have := WB_one; omega) (by omega)
    rw [Nat.zero_add] at ho4
    have hc := ho3.there (by omega)
    rw [Nat.zero_add] at hc
    obtain ⟨u, hc⟩ := hc
    have hfr := ho3.room m
    have hN := Lib.hid (hmd.drew.normCall (by omega) ho4 (add_end ho1.len ho2.len (by omega) hv1 hv2))
    clear ho4 ho3 ho2 ho1
    go_wp2_with fail
    refine hN.out.mono ?_
    rintro e w5 ⟨v', rfl, hw5, ho⟩
    obtain rfl := hw5.symm
    go_wp2_with fail
    go_ret
    exact ⟨_, rfl, ho⟩
   ·obtain rfl : m = n := by omega
    have t3 : ¬ (m : Int) < m := by omega
    go_enter Tryz.func275, Tryz.ntmps275
    go_wp2_with fail
    refine hM.out.mono ?_
    rintro e w1 ⟨g, C, rfl, hmd⟩
    have hf := hmd.fit
    have hP := Lib.hid (addVV_any w1.drew g 0 C.length gx 0 Cx.length gy 0 Cy.length m C xs ys hmd.drew.blk (hvx.keptN hmd.drew.keep) (hvy.keptN hmd.drew.keep) hm hn (by omega) (.inr rfl) (.inr rfl) wx wy (by omega))
    have t4 : (m : Int) ≤ C.length := by omega
    have t5 : (m : Int) ≤ Cx.length := by omega
    have t6 : (m : Int) ≤ Cy.length := by omega
    go_wp2_with fail
    go_still_tail 9, (by kernel_rfl)
    change wpList _ _ _ _ _ w1.drew
    go_wp2_with fail
    refine hP.out.mono ?_
    rintro e w2 ⟨z1, c1, rfl, hc1, hv1, ho1⟩
    have ho4 := ho1.snoc c1 (by have := WB_one; omega) (by omega)
    rw [Nat.zero_add] at ho4
    have hc := ho1.there (by omega)
    rw [Nat.zero_add] at hc
    obtain ⟨u, hc⟩ := hc
    have hfr := ho1.room m
    have hN := Lib.hid (hmd.drew.normCall (by omega) ho4 (show val WB (z1 ++ [c1]) = val WB xs + val WB ys by rw [val_snoc, ho1.len, hv1]))
    clear ho4 ho1
    go_wp2_with fail
    refine hN.out.mono ?_
    rintro e w5 ⟨v', rfl, hw5, ho⟩
    obtain rfl := hw5.symm
    go_wp2_with fail
    go_ret
    exact ⟨_, rfl, ho⟩
theorem add_any (w : World) (base bx by_ : Nat) (zv xv yv : Value) (zs xs ys : List Nat) (h : NatRow w base zv zs) (hx : NatRow w bx xv xs) (hy : NatRow w by_ yv ys) (hB : base ≤ w.heap.size) (hl : xs.length ≤ 10000) (hl' : ys.length ≤ 10000)
  (hd : ys = [] → digs WB (val WB xs) = xs) (hd' : xs = [] → digs WB (val WB ys) = ys) :
  Calls Tryz.prog 275 #[zv, xv, yv] w fun e w' => ∃ v', e = .returned v' ∧ NatOut w w' base zv v' (digs WB (val WB xs + val WB ys)) := by
 by_cases hle : ys.length ≤ xs.length
 ·exact add_core w base bx by_ zv xv yv zs xs ys h hx hy hB hl hle hd
 ·have hA := Lib.hid (add_core w base by_ bx zv yv xv zs ys xs h hy hx hB hl' (by omega) hd')
  have t0 : (xs.length : Int) < ys.length := by omega
  obtain ⟨px, cx, rfl⟩ := hx.form
  obtain ⟨py, cy, rfl⟩ := hy.form
  go_enter Tryz.func275, Tryz.ntmps275
  go_wp2_with fail
  refine hA.out.mono ?_
  rintro e w1 ⟨v', rfl, ho⟩
  go_wp2_with fail
  go_ret
  refine ⟨_, rfl, ?_⟩
  rw [Nat.add_comm]
  exact ho
end Go.Proofs.YthocmhkafgpgbaaGreatDoor
namespace Go.Proofs.YthocmhkafgpgbaaGreatDoor
open Go.RowKit
def cmpI (a b : Nat) : Int := if a < b then -1 else if b < a then 1 else 0
theorem cmpI_lt {a b : Nat} (h : a < b) : cmpI a b = -1 := if_pos h
theorem cmpI_gt {a b : Nat} (h : b < a) : cmpI a b = 1 := by unfold cmpI; rw [if_neg (by omega), if_pos h]
theorem cmpI_eq {a b : Nat} (h : a = b) : cmpI a b = 0 := by unfold cmpI; rw [if_neg (by omega), if_neg (by omega)]
theorem drop_snoc {xs ys : List Nat} {i : Nat} (hx : i < xs.length) (hy : i < ys.length) (h : xs.drop (i + 1) = ys.drop (i + 1)) (e : xs[i] = ys[i]) : xs.drop i = ys.drop i := by
 rw [List.drop_eq_getElem_cons hx, List.drop_eq_getElem_cons hy, h, e]
set_option maxRecDepth 100000 in
set_option maxHeartbeats 1000000 in
theorem cmp_any (w : World) (bx by_ : Nat) (xv yv : Value) (a b : Nat) (hx : NatAt w bx xv a) (hy : NatAt w by_ yv b) (hl : (digs WB a).length ≤ 10000) (hl' : (digs WB b).length ≤ 10000) :
  Calls Tryz.prog 252 #[xv, yv] w fun e w' => e = .returned (.int .i64 (cmpI a b)) ∧ ∃ n, w' = w.drewN n := by
 obtain ⟨xs, hxs⟩ : ∃ xs, digs WB a = xs := ⟨_, rfl⟩
 obtain ⟨ys, hys⟩ : ∃ ys, digs WB b = ys := ⟨_, rfl⟩
 have ha := val_digs WB_one a
 have hb := val_digs WB_one b
 have wx := words_digs WB_one a
 have wy := words_digs WB_one b
 have hla : (digs WB a).length < (digs WB b).length → a < b := lt_of_digs_length WB_one
 have hlb : (digs WB b).length < (digs WB a).length → b < a := lt_of_digs_length WB_one
 unfold NatAt at hx hy
 rw [hxs] at hx hl ha wx hla hlb
 rw [hys] at hy hl' hb wy hla hlb
 by_cases hmn : xs.length = ys.length
 ·by_cases h0 : xs.length = 0
  ·obtain rfl : xs = [] := List.eq_nil_of_length_eq_zero h0
   obtain rfl : ys = [] := List.eq_nil_of_length_eq_zero (by omega)
   rw [val_nil] at ha hb
   obtain ⟨px, cx, rfl⟩ := hx.form
   obtain ⟨py, cy, rfl⟩ := hy.form
   go_enter Tryz.func252, Tryz.ntmps252
   go_wp2_with fail
   go_ret
   exact ⟨by rw [cmpI_eq (by omega)]; rfl, 0, rfl⟩
  ·obtain ⟨gx, Cx, rfl, hbx, hCx, hwx, htx, h0x, hlx, hxC⟩ := hx.mk' (by omega)
   obtain ⟨gy, Cy, rfl, hby, hCy, hwy, hty, h0y, hly, hyC⟩ := hy.mk' (by omega)
   have hvx := hCx.row (xs := xs) htx (by omega)
   have hvy := hCy.row (xs := ys) hty (by omega)
   obtain ⟨m, hm⟩ : ∃ m, xs.length = m := ⟨_, rfl⟩
   have hm' : ys.length = m := by omega
   rw [hm] at hl h0 htx hxC ⊢
   rw [hm'] at hl' hty hyC ⊢
   have t1 : ¬ (m : Int) = 0 := by omega
   have t2 : (m : Int) = m := rfl
   obtain ⟨m1, hm1⟩ : ∃ m1, m - 1 = m1 := ⟨_, rfl⟩
   have e1 : (m : Int) - 1 = (m1 : Int) := by omega
   go_enter Tryz.func252, Tryz.ntmps252
   go_wp2_with fail
   go_loopw [7] (fun i wr => ∃ k : Nat, k < m ∧ i = .int .i64 k ∧ (∃ n, wr = w.drewN n) ∧ xs.drop (k + 1) = ys.drop (k + 1)) (fun i _ => (intOf i).toNat)
   case atStart => exact ⟨m1, by omega, rfl, ⟨0, rfl⟩, by rw [List.drop_of_length_le (by omega), List.drop_of_length_le (by omega)]⟩
   case round =>
    obtain ⟨k, hk, rfl, ⟨nn, rfl⟩, hdr⟩ := hrel
    have wk := val_lt_of wx k (by omega) (by omega) hdr
    have wk' := val_lt_of wy k (by omega) (by omega) hdr.symm
    rw [ha, hb] at wk wk'
    by_cases hk0 : k = 0
    ·subst hk0
     have cx := hvx 0 (by omega)
     have cy := hvy 0 (by omega)
     rw [Nat.zero_add] at cx cy
     by_cases heq : xs[0] = ys[0]
     ·have hab : a = b := by
       rw [← ha, ← hb]
       have := drop_snoc (by omega) (by omega) hdr heq
       rw [List.drop_zero, List.drop_zero] at this
       rw [this]
      rw [heq] at cx
      generalize ys[0] = d at *
      have t3 : ¬ (d : Int) < d := by omega
      go_wp2_with fail
      go_region
      go_wp2_with fail
      go_region
      go_wp2_with fail
      go_region
      go_wp2_with fail
      go_ret
      exact ⟨by rw [cmpI_eq hab]; rfl, _, rfl⟩
     ·rcases Nat.lt_or_gt_of_ne heq with hlt | hgt
      ·have hab := wk hlt
       generalize ys[0] = d at *
       generalize xs[0] = c at *
       have t3 : (c : Int) < d := by omega
       go_wp2_with fail
       go_region
       go_wp2_with fail
       go_region
       go_wp2_with fail
       go_ret
       exact ⟨by rw [cmpI_lt hab]; rfl, _, rfl⟩
      ·have hab := wk' hgt
       generalize ys[0] = d at *
       generalize xs[0] = c at *
       have t3 : ¬ (c : Int) < d := by omega
       have t4 : (d : Int) < c := by omega
       go_wp2_with fail
       go_region
       go_wp2_with fail
       go_region
       go_wp2_with fail
       go_region
       go_wp2_with fail
       go_ret
       exact ⟨by rw [cmpI_gt hab]; rfl, _, rfl⟩
    ·have cx := hvx k (by omega)
     have cy := hvy k (by omega)
     rw [Nat.zero_add] at cx cy
     have t0 : 0 < k := by omega
     have tD : decide (0 < k) = true := by simpa using t0
     by_cases heq : xs[k] = ys[k]
     ·have hnx := drop_snoc (by omega) (by omega) hdr heq
      obtain ⟨k1, hk1⟩ : ∃ k1, k - 1 = k1 := ⟨_, rfl⟩
      have e2 : (k : Int) - 1 = (k1 : Int) := by omega
      have e2' := Lib.hid e2
      rw [heq] at cx
      generalize ys[k] = d at *
      clear hk1 e2
      go_wp2_with fail
      go_region
      have e2 := e2'.out
      go_wp2_with fail
      go_roundw
      case rel => exact ⟨k1, by have := e2'.out; omega, by go_num, ⟨_, rfl⟩, by rw [show k1 + 1 = k by have := e2'.out; omega]; exact hnx⟩
      case measure => have := e2'.out; simp [intOf]; omega
     ·rcases Nat.lt_or_gt_of_ne heq with hlt | hgt
      ·have hab := wk hlt
       generalize ys[k] = d at *
       generalize xs[k] = c at *
       have t3 : (c : Int) < d := by omega
       have t5 : ¬ (c : Int) = d := by omega
       go_wp2_with fail
       go_region
       go_wp2_with fail
       go_region
       go_wp2_with fail
       go_ret
       exact ⟨by rw [cmpI_lt hab]; rfl, _, rfl⟩
      ·have hab := wk' hgt
       generalize ys[k] = d at *
       generalize xs[k] = c at *
       have t3 : ¬ (c : Int) < d := by omega
       have t4 : (d : Int) < c := by omega
       have t5 : ¬ (c : Int) = d := by omega
       go_wp2_with fail
       go_region
       go_wp2_with fail
       go_region
       go_wp2_with fail
       go_region
       go_wp2_with fail
       go_ret
       exact ⟨by rw [cmpI_gt hab]; rfl, _, rfl⟩
 ·obtain ⟨px, cx, rfl⟩ := hx.form
  obtain ⟨py, cy, rfl⟩ := hy.form
  have t1 : ¬ (xs.length : Int) = ys.length := by omega
  rcases Nat.lt_or_gt_of_ne hmn with hlt | hgt
  ·have hab := hla hlt
   have t2 : (xs.length : Int) < ys.length := by omega
   go_enter Tryz.func252, Tryz.ntmps252
   go_wp2_with fail
   go_ret
   exact ⟨by rw [cmpI_lt hab]; rfl, 0, rfl⟩
  ·have hab := hlb hgt
   have t2 : ¬ (xs.length : Int) < ys.length := by omega
   have t3 : (ys.length : Int) < xs.length := by omega
   go_enter Tryz.func252, Tryz.ntmps252
   go_wp2_with fail
   go_ret
   exact ⟨by rw [cmpI_gt hab]; rfl, 0, rfl⟩
end Go.Proofs.YthocmhkafgpgbaaGreatDoor
namespace Go.Proofs.YthocmhkafgpgbaaGreatDoor
open Go.RowKit
set_option maxRecDepth 100000 in
set_option maxHeartbeats 1000000 in
theorem mulAddWW_any (w : World) (base bx y r : Nat) (zv xv : Value) (zs xs : List Nat) (h : NatRow w base zv zs) (hx : NatRow w bx xv xs) (hB : base ≤ w.heap.size) (hl : xs.length ≤ 10000) (hy : y < WB) (hr : r < WB) :
  Calls Tryz.prog 283 #[zv, xv, .int .u64 y, .int .u64 r] w fun e w' => ∃ v', e = .returned v' ∧ NatOut w w' base zv v' (digs WB (val WB xs * y + r)) := by
 have wx := hx.words
 by_cases h0 : xs.length = 0 ∨ y = 0
 ·have hS := Lib.hid (setWord_any w base zv zs r h hr hB)
  obtain ⟨px, cx, rfl⟩ := hx.form
  have hv : val WB xs * y + r = r := by
   rcases h0 with h0 | h0
   ·rw [List.eq_nil_of_length_eq_zero h0, val_nil]; omega
   ·subst h0; omega
  by_cases h1 : xs.length = 0
  ·have t1 : (xs.length : Int) = 0 := by omega
   go_enter Tryz.func283, Tryz.ntmps283
   go_wp2_with fail
   refine hS.out.mono ?_
   rintro e w1 ⟨v', rfl, ho⟩
   go_wp2_with fail
   go_ret
   exact ⟨_, rfl, by rw [hv]; exact ho⟩
  ·have t1 : ¬ (xs.length : Int) = 0 := by omega
   have t2 : (y : Int) = 0 := by omega
   go_enter Tryz.func283, Tryz.ntmps283
   go_wp2_with fail
   refine hS.out.mono ?_
   rintro e w1 ⟨v', rfl, ho⟩
   go_wp2_with fail
   go_ret
   exact ⟨_, rfl, by rw [hv]; exact ho⟩
 ·obtain ⟨gx, Cx, rfl, hbx, hCx, hwx, htx, h0x, hlx, hxC⟩ := hx.mk' (by omega)
  have hvx := hCx.row (xs := xs) htx (by omega)
  obtain ⟨m, hm⟩ : ∃ m, xs.length = m := ⟨_, rfl⟩
  have hM := make_any w base (m + 1) zv zs h (by omega) (by omega) hB
  have em : ((m + 1 : Nat) : Int) = (m : Int) + 1 := by omega
  rw [em] at hM
  have hM := Lib.hid hM
  rw [hm] at hl htx hxC h0 ⊢
  have t1 : ((m : Int) == 0) = false := by simp; omega
  have t2 : ((y : Int) == 0) = false := by simp; omega
  go_enter Tryz.func283, Tryz.ntmps283
  go_wp2_with fail
  refine hM.out.mono ?_
  rintro e w1 ⟨g, C, rfl, hmd⟩
  have hf := hmd.fit
  have t3 : (m : Int) ≤ C.length := by omega
  have hP := Lib.hid (mulAddVWW_any w1 g 0 C.length gx 0 Cx.length m y r C xs hmd.blk (hvx.keptN hmd.keep) hm (by omega) (.inr rfl) wx hy hr (by omega))
  go_wp2_with fail
  refine hP.out.mono ?_
  rintro e w2 ⟨z1, c1, rfl, hc1, hv1, ho1⟩
  have ho4 := ho1.snoc c1 hc1 (by omega)
  rw [Nat.zero_add] at ho4
  have hc := ho1.there (by omega)
  rw [Nat.zero_add] at hc
  obtain ⟨u, hc⟩ := hc
  have hfr := ho1.room m
  have hN := Lib.hid (hmd.normCall (by omega) ho4 (show val WB (z1 ++ [c1]) = val WB xs * y + r by rw [val_snoc, ho1.len, hv1]))
  clear ho4 ho1
  go_wp2_with fail
  refine hN.out.mono ?_
  rintro e w5 ⟨v', rfl, hw5, ho⟩
  obtain rfl := hw5.symm
  go_wp2_with fail
  go_ret
  exact ⟨_, rfl, ho⟩
theorem VecOut.cells {w : World} {g o : Nat} {C : List Nat} : ∀ (ds zs : List Nat) (w1 : World) (n : Nat), VecOut w w1 g o C zs n → Words WB ds → o + n + ds.length ≤ C.length → VecOut w (w1.setCells g (o + n) (u64s ds)) g o C (zs ++ ds) (n + ds.length)
 | [], zs, w1, n, h, _, _ => by simpa [World.setCells] using h
 | d :: ds, zs, w1, n, h, hw, hl => by
  simp only [List.length_cons] at hl
  have h1 := h.snoc d (hw d (by simp)) (by omega)
  have h2 := VecOut.cells ds _ _ _ h1 (fun x hx => hw x (by simp [hx])) (by omega)
  simp only [List.append_assoc, List.singleton_append] at h2
  rw [show n + 1 + ds.length = n + (d :: ds).length by simp; omega] at h2
  exact h2
theorem zeroW (w : World) : (zeroValue 253).run Tryz.prog w = .ok (.int .u64 0) w := by
 obtain ⟨i, hi, hzz⟩ := Option.map_eq_some_iff.1 Tryz.infoW
 simp only [Prod.mk.injEq] at hzz
 simp [zeroValue, typeInfo, hi, hzz.1]
theorem clearRun {w : World} {g n c : Nat} {C : List Nat} (h : Blk w g C) (hn : 0 < n) (hC : n ≤ C.length) (ty : TypeId) :
  (Builtin.clear_ #[141] ty #[.slice (some ⟨g, 0, none⟩) n c]).run Tryz.prog w = .ok (.tuple #[]) (w.setCells g 0 (List.replicate n (.int .u64 0))) :=
 Lib.run_clear_slice w _ _ _ _ Tryz.underlying141 zeroW rfl rfl g 0 n c hn (fun j hj => by rw [Nat.zero_add, h.cell j (by omega)]; rfl) (fun j hj => h.frozen _)
theorem over_in (C L ws : List Nat) (i : Nat) (hi : i + ws.length ≤ L.length) (hL : L.length ≤ C.length) : over (over C 0 L) i ws = over C 0 (over L i ws) := by
 have hl1 : (over C 0 L).length = C.length := over_length _ _ _ (by omega)
 have hl2 : (over L i ws).length = L.length := over_length _ _ _ (by omega)
 refine List.ext_getElem? fun j => ?_
 by_cases h1 : j < i
 ·rw [over_get_lt _ _ _ _ h1 (by omega), over_get_in _ _ _ _ (by omega) (by omega) (by omega), over_get_in _ _ _ _ (by omega) (by omega) (by omega), Nat.sub_zero, over_get_lt _ _ _ _ h1 (by omega)]
 ·by_cases h2 : j < i + ws.length
  ·rw [over_get_in _ _ _ _ (by omega) h2 (by omega), over_get_in _ _ _ _ (by omega) (by omega) (by omega), Nat.sub_zero, over_get_in _ _ _ _ (by omega) h2 (by omega)]
  ·rw [over_get_ge _ _ _ _ (by omega) (by omega)]
   by_cases h3 : j < L.length
   ·rw [over_get_in _ _ _ _ (by omega) (by omega) (by omega), over_get_in _ _ _ _ (by omega) (by omega) (by omega), Nat.sub_zero, over_get_ge _ _ _ _ (by omega) (by omega)]
   ·rw [over_get_ge _ _ _ _ (by omega) (by omega), over_get_ge _ _ _ _ (by omega) (by omega)]
theorem VecOut.within {w w1 w2 : World} {g k i m : Nat} {C L ws : List Nat} (h : VecOut w w1 g 0 C L k) (h' : VecOut w1 w2 g i (over C 0 L) ws m) (hi : i + m ≤ k) (hk : k ≤ C.length) : VecOut w w2 g 0 C (over L i ws) k := by
 have e := over_in C L ws i (by rw [h.len, h'.len]; omega) (by rw [h.len]; omega)
 refine ⟨by rw [over_length _ _ _ (by rw [h.len, h'.len]; omega), h.len], over_words h.words h'.words, ?_, h.keep.trans h'.keep (fun _ _ e => e)⟩
 rw [← e]; exact h'.blk
theorem VecOut.vec {w w1 : World} {g k : Nat} {C L : List Nat} (h : VecOut w w1 g 0 C L k) (hk : k ≤ C.length) : Vec w1 g 0 L := fun j hj => by
 have hl : (over C 0 L).length = C.length := over_length _ _ _ (by rw [h.len]; omega)
 have hjk : j < k := by rw [← h.len]; exact hj
 rw [Nat.zero_add, cellOf h.blk]
 have := over_get_in C 0 L j (Nat.zero_le _) (by omega) (by omega)
 rw [Nat.sub_zero, List.getElem?_eq_getElem hj] at this
 simp [u64s, this]
theorem over_mid (zs ws : List Nat) (i m q : Nat) (hz : zs.length = m + i) (hw : ws.length = m + 1) : over (zs ++ List.replicate (q + 1) 0) i ws = zs.take i ++ ws ++ List.replicate q 0 := by
 unfold over
 rw [List.take_append_of_le_length (by omega), List.append_assoc]
 congr 2
 rw [hw, List.drop_append, List.drop_of_length_le (by omega), hz, List.nil_append, List.drop_replicate]
 congr 1
 omega
theorem mul_step {B : Nat} {zs ws xs ys : List Nat} {i m c : Nat} (hi : i < ys.length) (hz : zs.length = m + i) (hw : ws.length = m) (hv : val B zs = val B xs * val B (ys.take i)) (h : val B ws + B ^ m * c = val B (zs.drop i) + val B xs * ys[i] + 0) :
  val B (zs.take i ++ (ws ++ [c])) = val B xs * val B (ys.take (i + 1)) := by
 have hs := val_split (B := B) zs i (by omega)
 have e : B ^ i * (val B xs * ys[i]) = val B xs * (B ^ i * ys[i]) := Nat.mul_left_comm _ _ _
 rw [val_append, val_snoc, hw, val_take_succ ys i hi, h, List.length_take, Nat.min_eq_left (by omega), Nat.add_zero, Nat.mul_add (B ^ i), Nat.mul_add (val B xs), ← hv, e]
 omega
set_option maxRecDepth 100000 in
set_option maxHeartbeats 1000000 in
theorem basicMul_any (w : World) (g gx gy m n cx cy k : Nat) (C xs ys : List Nat) (hz : Blk w g C) (hx : Vec w gx 0 xs) (hy : Vec w gy 0 ys) (hm : xs.length = m) (hn : ys.length = n) (hC : k ≤ C.length) (hk : m + n = k) (h0 : 0 < m) (hl : k ≤ 10000) (ax : gx ≠ g) (ay : gy ≠ g)
  (wx : Words WB xs) (wy : Words WB ys) :
  Calls Tryz.prog 316 #[.slice (some ⟨g, 0, none⟩) k C.length, .slice (some ⟨gx, 0, none⟩) m cx, .slice (some ⟨gy, 0, none⟩) n cy] w fun e w' => ∃ zs, e = .returned (.tuple #[]) ∧ val WB zs = val WB xs * val WB ys ∧ VecOut w w' g 0 C zs k := by
 have hcl := clearRun (c := C.length) hz (n := k) (by omega) hC
 have hv0 := VecOut.cells (List.replicate k 0) [] w 0 (.start (oz := 0) hz) (Words.replicate WB_pos k) (by simp; omega)
 rw [Nat.zero_add, Nat.zero_add, List.length_replicate, List.nil_append, show u64s (List.replicate k 0) = List.replicate k (.int .u64 0) by simp [u64s]] at hv0
 generalize hW : w.setCells g 0 (List.replicate k (.int .u64 0)) = W at hcl hv0
 have e1 : (m : Int) + n = (k : Int) := by omega
 have e2 : (k : Int) ≤ C.length := by omega
 go_enter Tryz.func316, Tryz.ntmps316
 go_wp2_with fail
 go_loopw [17] (fun i wr => ∃ (j : Nat) (zs : List Nat), j ≤ n ∧ i = .int .i64 j ∧ zs.length = m + j ∧ val WB zs = val WB xs * val WB (ys.take j) ∧ VecOut w wr g 0 C (zs ++ List.replicate (n - j) 0) k) (fun i _ => n - (intOf i).toNat)
 case atStart => exact ⟨0, List.replicate m 0, Nat.zero_le _, rfl, by simp, by simp [val, val_replicate], by rw [List.replicate_append_replicate, Nat.sub_zero, hk]; exact hv0⟩
 case round =>
  obtain ⟨j, zs, hj, rfl, hzl, hval, ho⟩ := hrel
  by_cases hlt : j < n
  ·have hyk := ho.keep.cellS (hy j (by omega)) ay
   rw [Nat.zero_add] at hyk
   have wyk := wy.get j (by omega)
   have t0 : (j : Int) < n := by omega
   obtain ⟨q, hq⟩ : ∃ q, n - j = q + 1 := ⟨n - j - 1, by omega⟩
   have hq' : n - (j + 1) = q := by omega
   by_cases hd : ys[j] = 0
   ·rw [hd] at hyk
    go_wp2_with fail
    go_roundw
    case rel =>
     refine ⟨j + 1, zs ++ [0], by omega, by go_num, by simp; omega, ?_, ?_⟩
     ·rw [val_snoc, val_take_succ ys j (by omega), hd, hval]; simp
     ·rw [hq', List.append_assoc]
      rw [hq] at ho
      simpa [List.replicate_succ] using ho
    case measure => simp [intOf]; omega
   ·have hd' : ¬ ((ys[j] : Nat) : Int) = 0 := by omega
    generalize hyd : ys[j] = d at *
    have hvz : Vec _ g 0 _ := ho.vec hC
    obtain ⟨p, hp⟩ : ∃ p, m + j = p := ⟨_, rfl⟩
    have e3 : (m : Int) + j = (p : Int) := by omega
    have e4 : (j : Int) + m = (p : Int) := by omega
    have s1 := midN0 g k C.length j p (by omega) (by omega) (by omega)
    rw [show p - j = m by omega] at s1
    have hlo : (over C 0 (zs ++ List.replicate (n - j) 0)).length = C.length := over_length _ _ _ (by rw [ho.len]; omega)
    have ws0 : Words WB zs := fun x hx => ho.words x (by simp [hx])
    have hvd : Vec wr.drew g j (zs.drop j) := fun i hi => by
     simp only [List.length_drop] at hi
     have := hvz (j + i) (by simp; omega)
     rw [Nat.zero_add] at this
     rw [show (wr.drew).cell? ⟨g, j + i, none⟩ = wr.cell? ⟨g, j + i, none⟩ from rfl, this]
     simp [List.getElem_append_left (show j + i < zs.length by omega)]
    have hP := Lib.hid (addMulVVWW_any wr.drew g j (C.length - j) g j (C.length - j) gx 0 cx m d 0 (over C 0 (zs ++ List.replicate (n - j) 0)) (zs.drop j) xs ho.drew.blk hvd (hx.kept ho.keep.drew ax) (by simp; omega) hm (by rw [hlo]; omega) (.inr rfl) (.inl ax) (ws0.drop j) wx wyk WB_pos (by omega))
    clear e1
    have w5 : IntKind.i64.wrap (p : Int) = (p : Int) := by rw [IntKind.wrap_i64]; omega
    have w5' := Lib.hid w5
    clear w5
    go_wp2_with fail
    have w5 := w5'.out
    have b1 : (p : Int) < k := by omega
    have b2 : (0 : Int) ≤ p := by omega
    go_region_held3 (fun _ => True) (trivial) ((go_at_call 333; refine hP.out.mono ?_; rintro e w2 ⟨ws, c, rfl, hcl1, hv1, ho2⟩; obtain ⟨u, hcu⟩ := ho2.there (by rw [hlo]; omega); have hfr := ho2.room p; rw [show j + m = p by omega] at hcu))
    go_wp2_with fail
    go_roundw
    case rel =>
     have h3 := ho2.snoc c hcl1 (by rw [hlo]; omega)
     rw [show j + m = p by omega] at h3
     have h4 := ho.drew.within h3 (by omega) hC
     rw [hq, over_mid zs (ws ++ [c]) j m q hzl (by simp [ho2.len])] at h4
     refine ⟨j + 1, zs.take j ++ (ws ++ [c]), by omega, by go_num, by simp [ho2.len]; omega, ?_, by rw [hq']; exact h4⟩
     subst hyd
     exact mul_step (by omega) hzl ho2.len hval hv1
    case measure => simp [intOf]; omega
  ·obtain rfl : j = n := by omega
   go_wp2_with fail
   go_end0
   refine ⟨_, rfl, ?_, ho⟩
   rw [Nat.sub_self, List.replicate_zero, List.append_nil, hval, List.take_of_length_le (by omega)]
end Go.Proofs.YthocmhkafgpgbaaGreatDoor
