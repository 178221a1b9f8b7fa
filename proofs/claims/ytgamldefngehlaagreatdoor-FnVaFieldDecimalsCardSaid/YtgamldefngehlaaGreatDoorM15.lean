/- Parts of the walk. -/
import Derived.Test.YtgamldefngehlaaGreatDoorM08
import Derived.Test.YtgamldefngehlaaGreatDoorM10
import Derived.Test.YtgamldefngehlaaGreatDoorM14
set_option linter.unusedVariables false
set_option linter.unusedSimpArgs false
namespace Go.Proofs.YtgamldefngehlaaGreatDoor
open Go.RowKit
set_option maxRecDepth 100000 in
set_option maxHeartbeats 4000000 in
theorem divBasic_any (w : World) (s gq gu gv n m cv k v1 tu : Nat) (Cq Cu us0 vs : List Nat) (hs : StkNew w s) (hq : Blk w gq Cq) (hu : Blk w gu Cu) (hv : Vec w gv 0 vs) (huT : Cu.take (m + n) = us0) (huL : m + n ≤ Cu.length) (hqL : m ≤ Cq.length)
  (hk : n = k + 2) (hn4 : n ≤ 4) (hm0 : 0 < m) (hm : m ≤ 1000) (hvn : vs.length = n) (wv : Words WB vs) (wu : Words WB us0) (hv1 : vs[k + 1]? = some v1) (htu : us0[m + n - 1]? = some tu) (hnorm : WB ≤ 2 * v1) (htop : tu < v1)
  (h1 : gq ≠ gu) (h2 : gv ≠ gu) (h3 : gv ≠ gq) (hcv : n ≤ cv) :
  Calls Tryz.prog 290 #[.slice (some ⟨gq, 0, none⟩) m Cq.length, .pointer (some ⟨s, 0, none⟩), .slice (some ⟨gu, 0, none⟩) (m + n : Nat) Cu.length, .slice (some ⟨gv, 0, none⟩) n cv] w fun e w' =>
   e = .returned (.tuple #[]) ∧ ∃ us zs, Blk w' gu (over Cu 0 us) ∧ us.length = m + n ∧ Words WB us ∧ val WB us = val WB us0 % val WB vs ∧ Blk w' gq (over Cq 0 zs) ∧ zs.length = m ∧ Words WB zs ∧ val WB zs = val WB us0 / val WB vs ∧
    Keeps (fun k => k = gu ∨ k = gq ∨ k = s) w w' ∧ StkIn w' s w.heap.size ∧ (n ≤ 3 → StkNew w' s) := by
 have hS := Lib.hid (stkSave w s hs)
 have hSn := stkNat w s (n + 1) hs (by omega) (by omega)
 obtain ⟨un, hun⟩ : ∃ un, m + n = un := ⟨_, rfl⟩
 obtain ⟨n1, hn1⟩ : ∃ n1, n + 1 = n1 := ⟨_, rfl⟩
 obtain ⟨k1, hk1⟩ : ∃ k1, k + 1 = k1 := ⟨_, rfl⟩
 rw [hun] at huT huL ⊢
 rw [hn1] at hSn
 have hSn := Lib.hid hSn
 have gus := hu.notStk hs
 have gqs := hq.notStk hs
 have gvs := hv.notStk (by omega) hs
 have e1 : (un : Int) - n = m := by omega
 have e2 : (n : Int) + 1 = n1 := by omega
 have e3 : (n : Int) - 1 = k1 := by omega
 have e4 : (n : Int) - 2 = k := by omega
 have hkH := Lib.hid hk
 have hnH := Lib.hid (show k1 < n ∧ k < n by omega)
 clear hk
 go_enter_defers Tryz.func290, Tryz.ntmps290
 go_wp2_with fail
 refine hS.out.mono ?_
 rintro e w1 ⟨rfl, hw1⟩
 obtain rfl := hw1.symm
 go_wp2_with fail
 refine hSn.out.mono ?_
 rintro e w1 ⟨gh, ch, Ch, rfl, hch, hCh, hgh, hbh, hst, hkp, hst4⟩
 have hvv := hv.kept hkp gvs
 have hu1 := hu.kept hkp gus
 have hq1 := hq.kept hkp gqs
 have c1 := hvv k1 (by have := hnH.out; omega)
 rw [Nat.zero_add] at c1
 have t1 : (k1 : Int) < n := by have := hnH.out; omega
 have t1' : (0 : Int) ≤ k1 := by omega
 rw [hk1] at hv1
 obtain ⟨hkv, hv1e⟩ := List.getElem?_eq_some_iff.1 hv1
 have wk1 := wv.get k1 hkv
 rw [hv1e] at c1 wk1
 have hvnz : v1 ≠ 0 := by
  have := WB_pos
  omega
 have hR := Lib.hid (reciprocalWord_any _ hvnz wk1 w1)
 have hD := Lib.hid (fun x1 x0 hx1 hx0 => divWW_any x1 x0 _ hvnz wk1 hx1 hx0)
 generalize recip (v1 * 2 ^ nlzN v1) = rc at *
 go_wp2_with fail
 refine hR.out.mono ?_
 rintro e w2 ⟨rfl, q, rfl⟩
 go_wp2_with fail
 obtain ⟨W0, hW0⟩ : ∃ W0, w1.drewN q = W0 := ⟨_, rfl⟩
 rw [hW0]
 have hu0 : Blk W0 gu Cu := by rw [← hW0]; exact hu1
 have hq0 : Blk W0 gq Cq := by rw [← hW0]; exact hq1
 have hv0 : Vec W0 gv 0 vs := by rw [← hW0]; exact hvv
 have hb0 : Blk W0 gh Ch := by rw [← hW0]; exact hbh
 have husl : us0.length = un := by rw [← huT]; simp; omega
 have hov : over Cu 0 us0 = Cu := by
  unfold over
  rw [← huT]
  simp
  rw [Nat.min_eq_left huL, List.take_append_drop]
 obtain ⟨V, hV⟩ : ∃ V, val WB vs = V := ⟨_, rfl⟩
 obtain ⟨U, hU⟩ : ∃ U, val WB us0 = U := ⟨_, rfl⟩
 obtain ⟨zs, hzs⟩ : ∃ zs, lowd (U / V) m = zs := ⟨_, rfl⟩
 have hzl : zs.length = m := by rw [← hzs, lowd_length]
 have hghu : gh ≠ gu := fun e => by subst e; have := hu.lt; omega
 have hghq : gh ≠ gq := fun e => by subst e; have := hq.lt; omega
 have hghv : gh ≠ gv := fun e => by
  subst e
  have := hv 0 (by have := hnH.out; omega)
  have := World.block_lt_of_cell? _ _ this
  simp at this
  omega
 have hlt : U / WB ^ m < V ∧ val WB (us0.drop m) = U / WB ^ m := by
  have hs := val_split (B := WB) us0 m (by omega)
  have h1 := val_take_lt wu m
  have e : U / WB ^ m = val WB (us0.drop m) := by
   rw [← hU, hs, Nat.add_mul_div_left _ _ (Nat.pow_pos WB_pos), Nat.div_eq_of_lt h1, Nat.zero_add]
  rw [e]
  have hkk := hkH.out
  have hl : (us0.drop m).length = k1 + 1 := by rw [List.length_drop]; omega
  obtain ⟨hil, htu'⟩ := List.getElem?_eq_some_iff.1 htu
  have e1 := val_top (xs := us0.drop m) (n := k1) hl
  have e2 := val_top (xs := vs) (n := k1) (by omega)
  have l1 := val_take_lt (wu.drop m) k1
  have e3 : (us0.drop m)[k1]'(by omega) = tu := by
   rw [List.getElem_drop]
   rw [← htu']
   congr 1
   omega
  rw [e3] at e1
  rw [hv1e] at e2
  have := Nat.mul_le_mul_left (WB ^ k1) htop
  rw [Nat.mul_succ] at this
  exact ⟨by omega, rfl⟩
 have hvm : val WB (us0.drop m) = U / WB ^ m % V := by rw [hlt.2, Nat.mod_eq_of_lt hlt.1]
 have hctx : DbCtx W0 gq gu gv gh n m k k1 un n1 cv ch v1 rc tu Cq Cu us0 vs zs U V := ⟨hv0, hqL, hm0, hm, hvn, wv, wu, htu, hv1, hnorm, htop, h1, h2, h3, hcv, hn4, huL, hun, hn1, hk1, hkH.out, hch, hD.out, husl, hV, hU, hzs, hzl, hghu, hghq, hghv, hvm⟩
 have hctx := Lib.hid hctx
 go_loopw [13, 14] (fun u i wr => ∃ (us : List Nat) (kk : Int) (j uj : Nat), i = .int .i64 kk ∧ u = .int .u64 uj ∧ DivMem W0 wr gu gq gh un n j Cu Cq us zs ∧
  ((kk = m ∧ j = m ∧ uj = 0 ∧ us = us0) ∨ (kk + 1 = j ∧ j ≤ m ∧ val WB (us.drop j) = U / WB ^ j % V ∧ us.take j = us0.take j ∧ (j = 0 ∨ us[j - 1 + n]? = some uj)))) (fun _ i _ => (intOf i + 1).toNat)
 case atStart => exact ⟨us0, m, m, 0, rfl, rfl, ⟨husl, wu, by rw [hov]; exact hu0, by rw [List.drop_of_length_le (by omega), over_nil]; exact hq0, ⟨Ch, hb0, by omega⟩, Keeps.refl _ _⟩, .inl ⟨rfl, rfl, rfl, rfl⟩⟩
 case round =>
  obtain ⟨us, kk, j, uj, rfl, rfl, hM, hcase⟩ := hrel
  rcases hcase with ⟨ek, ej, eu, eus⟩ | ⟨hkk, hjm, hval, htk, huj⟩
  ·subst ek
   obtain rfl := ej.symm
   subst eu
   obtain rfl := eus.symm
   exact db_first _ _ _ _ _ _ _ _ _ _ _ _ _ _ _ _ _ _ _ _ _ _ _ _ _ _ _ _ _ _ _ _ _ _ _ _ _ _ _ _ _ _ _ _ _ _ _ _ _ _ _ _ _ _ _ _ _ _ _ _ _ _ _ _ _ _ _ _ _ _ _ _ _ _ _ _ _ _ _ _ _ _ _ _ _ _ _ _ _ _ _ _ _ _ _ _ _ _ _ _ _ _ _ _ _ _ _ _ _ _ _ _ _ _ _ _ _ _ _ _ _ _ _ _ _ _ _ _ _ _ _ _ _ _ _ _ _ _ _ _ _ _ _ _ _ _ _ _ _ _ _ _ _ _ _ _ _ _ _ _ _ _ _ _ _ _ _ _ _ _ _ _ _ _ _ _ _ _ _ _ _ _ _ _ _ _ _ _ _ _ _ _ _ _ _ _ _ _ _ _ _ _ _ _ _ _ _ _ _ _ _ _ _ _ _ _ hctx.out hM
  ·by_cases hj0 : j = 0
   ·subst hj0
    obtain rfl : kk = -1 := by omega
    go_wp2_with fail
    have hst0 : StkIn W0 s w.heap.size := by rw [← hW0]; exact hst.kept ((Keeps.refl (fun _ => False) w1).drewN q) (fun _ h => h.elim)
    have hst9 := hst0.kept hM.keep (fun k hk => by
     rcases hk with e | e | e
     ·exact ⟨_, e ▸ hu0⟩
     ·exact ⟨_, e ▸ hq0⟩
     ·exact ⟨_, e ▸ hb0⟩)
    have hsl : s < w.heap.size := sizeOf_blk hs
    refine leaves_cons (by simp) rfl ?_
    refine (stkRestore wr s w.heap.size hst9 _).mono ?_
    rintro e u w9 ⟨rfl, rfl, hs9, hk9, hnew⟩
    have hV0 : 0 < V := by omega
    have hul := hu.lt
    have hql := hq.lt
    rw [Nat.pow_zero, Nat.div_one, List.drop_zero] at hval
    have hqq := hM.qk
    rw [List.drop_zero] at hqq
    have hqv : U / V < WB ^ m := by
     rw [Nat.div_lt_iff_lt_mul hV0, Nat.mul_comm]
     exact (Nat.div_lt_iff_lt_mul (Nat.pow_pos WB_pos)).1 hlt.1
    have hkp0 : Keeps (fun k => k = s) w W0 := by rw [← hW0]; exact hkp.drewN q
    refine ⟨.tuple #[], by simp [results, Tryz.results290, go_sem], rfl, us, hM.ub.kept hk9 (by omega), hM.ul, hM.uw, hval, zs, hqq.kept hk9 (by omega), hzl, by rw [← hzs]; exact lowd_words _ _, by rw [← hzs, lowd_val, Nat.mod_eq_of_lt hqv], (((hkp0.mono (fun _ _ e => .inr (.inr e))).trans hM.keep (fun k hk e => ?_)).trans hk9 (fun k hk e => by omega)), hs9, fun h3 => ?_⟩
    ·rcases e with e | e | e
     ·exact .inl e
     ·exact .inr (.inl e)
     ·omega
    ·have hn0 : StkNew W0 s := by rw [← hW0]; exact ((Keeps.refl (fun _ => False) w1).drewN q).at_ (hst4 (by omega)) (fun h => h)
     have hn1' : StkNew wr s := hM.keep.at_ hn0 (fun e => by rcases e with e | e | e <;> omega)
     rw [hnew hn1']
     exact hn1'
   ·obtain ⟨i, rfl⟩ : ∃ i, j = i + 1 := ⟨j - 1, by omega⟩
    obtain rfl : kk = (i : Int) := by omega
    have huj' := huj.resolve_left hj0
    rw [Nat.add_sub_cancel] at huj'
    exact db_mid _ _ _ _ _ _ _ _ _ _ _ _ _ _ _ _ _ _ _ _ _ _ _ _ _ _ _ _ _ _ _ _ _ _ _ _ _ _ _ _ _ _ _ _ _ _ _ _ _ _ _ _ _ _ _ _ _ _ _ _ _ _ _ _ _ _ _ _ _ _ _ _ _ _ _ _ _ _ _ _ _ _ _ _ _ _ _ _ _ _ _ _ _ _ _ _ _ _ _ _ _ _ _ _ _ _ _ _ _ _ _ _ _ _ _ _ _ _ _ _ _ _ _ _ _ _ _ _ _ _ _ _ _ _ _ _ _ _ _ _ _ _ _ _ _ _ _ _ _ _ _ _ _ _ _ _ _ _ _ _ _ _ _ _ _ _ _ _ _ _ _ _ _ _ _ _ _ _ _ _ _ _ _ _ _ _ _ _ _ _ _ _ _ _ _ _ _ _ _ _ _ _ _ _ _ _ _ _ _ _ _ _ _ _ _ _ hctx.out _ _ _ hM hjm hval htk huj'
end Go.Proofs.YtgamldefngehlaaGreatDoor
namespace Go.Proofs.YtgamldefngehlaaGreatDoor
open Go.RowKit
structure DivOutS (w w' : World) (base s : Nat) (zv z2 q r : Value) (a b : Nat) : Prop where
 quo : NatAt w' base q (a / b)
 rem : NatAt w' base r (a % b)
 keep : Keeps (fun k => (zv.ownBlock = some k ∨ z2.ownBlock = some k) ∨ k = s) w w'
 ownq : ∀ k, q.ownBlock = some k → zv.ownBlock = some k ∨ w.heap.size ≤ k
 ownr : ∀ k, r.ownBlock = some k → z2.ownBlock = some k ∨ w.heap.size ≤ k
 apart : ∀ k, q.ownBlock = some k → r.ownBlock ≠ some k
 stk : ∃ B, w.heap.size ≤ B ∧ StkIn w' s B ∧ ∀ k, q.ownBlock = some k ∨ r.ownBlock = some k → k < B
 small : (digs WB b).length ≤ 3 → StkNew w' s
theorem fitsVec {w : World} {gx n gz : Nat} {Cz xs : List Nat} (hC : n ≤ Cz.length) (hx : Vec w gx 0 xs) (hn : xs.length = n) :
  CopyFits w (some ⟨gz, 0, none⟩) (some ⟨gx, 0, none⟩) n n gz 0 (u64s Cz) (u64s xs) n := by
 refine ⟨by simpa using hn, (Nat.min_self _).symm, fun hp => ⟨rfl, _, rfl, fun j v hj => ?_⟩, by simp; omega, u64s_one _⟩
 obtain ⟨hj', rfl⟩ := List.getElem?_eq_some_iff.1 hj
 simp only [List.length_map] at hj'
 have := hx j hj'
 rw [Nat.zero_add] at this
 rw [Addr.add_lit, Nat.zero_add, this]
 simp
theorem scale_us {xs : List Nat} {sh : Nat} (h : sh ≤ 64) : val WB (shlW sh 0 xs ++ [shlC sh 0 xs]) = val WB xs * 2 ^ sh := by
 rw [val_snoc, shlW_length, shlW_val h, Nat.add_zero]
theorem scale_vs {ys : List Nat} {sh k1 t : Nat} (h : sh ≤ 63) (hl : ys.length = k1 + 1) (ht : ys[k1]? = some t) (hn : t * 2 ^ sh < WB) : val WB (shlW sh 0 ys) = val WB ys * 2 ^ sh := by
 have hv := shlW_val (s := sh) (by omega) ys 0
 obtain ⟨hk, ht'⟩ := List.getElem?_eq_some_iff.1 ht
 have hc := shlC_last sh ys 0 (by omega)
 simp only [hl, Nat.add_sub_cancel, ht'] at hc
 have h0 : t / 2 ^ (64 - sh) = 0 := by
  refine Nat.div_eq_of_lt ?_
  rw [WB_split (s := sh) (by omega), Nat.mul_comm (2 ^ sh)] at hn
  exact Nat.lt_of_mul_lt_mul_right hn
 rw [hc, h0] at hv
 simpa using hv
theorem scale_top {ys : List Nat} {sh k k1 t : Nat} (h : sh ≤ 63) (hk1 : k + 1 = k1) (ht : ys[k1]? = some t) (hn : t * 2 ^ sh < WB) (hn2 : WB ≤ 2 * (t * 2 ^ sh)) : ∃ v1, (shlW sh 0 ys)[k + 1]? = some v1 ∧ WB ≤ 2 * v1 := by
 subst hk1
 obtain ⟨hk, ht'⟩ := List.getElem?_eq_some_iff.1 ht
 refine ⟨_, shlW_succ sh ys 0 k hk, ?_⟩
 rw [ht', Nat.mod_eq_of_lt hn]
 generalize ys[k] / 2 ^ (64 - sh) = g
 omega
theorem scale_tu {xs : List Nat} {sh l v1 : Nat} (h : sh ≤ 63) (hw : Words WB xs) (hl : xs.length = l) (h0 : 0 < l) (hv : WB ≤ 2 * v1) : shlC sh 0 xs < v1 := by
 rw [shlC_last sh xs 0 (by omega)]
 have h1 := shr_lt (s := sh) (y := xs[xs.length - 1]'(by omega)) (by omega) (hw.get _ (by omega))
 have h2 : 2 * 2 ^ sh ≤ WB := by
  have h3 : 2 ^ (sh + 1) ≤ 2 ^ 64 := Nat.pow_le_pow_right (by decide) (by omega)
  rw [Nat.pow_succ'] at h3
  rw [WB_eq]
  exact h3
 omega
theorem shlC_lt0 (sh : Nat) (xs : List Nat) (h : sh ≤ 64) (hw : Words WB xs) : shlC sh 0 xs < WB := by
 by_cases h0 : xs.length = 0
 ·obtain rfl : xs = [] := List.eq_nil_of_length_eq_zero h0
  simp [shlC, WB_eq]
 ·rw [shlC_last sh xs 0 (by omega)]
  exact Nat.lt_of_le_of_lt (Nat.div_le_self _ _) (hw.get _ (by omega))
theorem over_take_all {C us : List Nat} (h : us.length ≤ C.length) : (over C 0 us).take us.length = us := by
 unfold over
 simp
theorem over_words0 {C us : List Nat} (hC : Words WB C) (hu : Words WB us) : Words WB (over C 0 us) := by
 unfold over
 intro x hx
 simp only [List.take_zero, List.nil_append, Nat.zero_add, List.mem_append] at hx
 exact hx.elim (hu x) (fun h => hC x (List.mem_of_mem_drop h))
theorem NatRow.laid {w : World} {base g n : Nat} {C us : List Nat} (hb : base ≤ g) (h : Blk w g (over C 0 us)) (hC : Words WB C) (hu : Words WB us) (hl : us.length = n) (hn : n ≤ C.length) (h0 : 0 < C.length) (hm : C.length ≤ 1000000) : NatRow w base (.slice (some ⟨g, 0, none⟩) n C.length) us := by
 subst hl
 have hlo : (over C 0 us).length = C.length := over_length _ _ _ (by omega)
 exact .inr ⟨g, over C 0 us, by rw [hlo], hb, h, over_words0 hC hu, over_take_all hn, by omega, by omega⟩
theorem Blk.laidVec {w : World} {g : Nat} {C us : List Nat} (h : Blk w g (over C 0 us)) (hn : us.length ≤ C.length) : Vec w g 0 us :=
 h.row (over_take_all hn) (by rw [over_length _ _ _ (by omega)]; exact hn)
set_option maxRecDepth 100000 in
set_option maxHeartbeats 2000000 in
theorem divLarge_any (w : World) (base bx by_ s : Nat) (zv z2 xv yv : Value) (zs z2s : List Nat) (a b : Nat) (h : NatRow w base zv zs) (h2 : NatRow w base z2 z2s) (hx : NatAt w bx xv a) (hy : NatAt w by_ yv b) (hap : ∀ k, zv.ownBlock = some k → z2.ownBlock ≠ some k) (hst : StkNew w s) (hB : base ≤ w.heap.size)
  (hl : (digs WB a).length ≤ 900) (hb2 : WB ≤ b) (hb4 : (digs WB b).length ≤ 4) (hba : b ≤ a) (hg : Thr w) (hGL : GL ≤ base) (hsG : GL ≤ s) :
  Calls Tryz.prog 262 #[zv, .pointer (some ⟨s, 0, none⟩), z2, xv, yv] w fun e w' => ∃ q r, e = .returned (.tuple #[q, r]) ∧ DivOutS w w' base s zv z2 q r a b := by
 obtain ⟨xs, hxs⟩ : ∃ xs, digs WB a = xs := ⟨_, rfl⟩
 obtain ⟨ys, hys⟩ : ∃ ys, digs WB b = ys := ⟨_, rfl⟩
 have ha := val_digs WB_one a
 have hb := val_digs WB_one b
 have wx := words_digs WB_one a
 have wy := words_digs WB_one b
 have hlast := digs_last WB_one b (fun e => by rw [e, val_nil] at hb; rw [WB_eq] at hb2; omega)
 have hn2 : 1 < ys.length := by
  rcases Nat.lt_or_ge 1 ys.length with h | h
  ·exact h
  ·rw [← hys] at h
   have := (digs_length_le WB_one).1 h
   rw [Nat.pow_one] at this
   omega
 have hyx : ys.length ≤ xs.length := by rw [← hys, ← hxs]; exact digs_length_mono WB_one hba
 unfold NatAt at hx hy
 simp only [hxs, hys] at hx hy hl hb4 ha hb wx wy hlast
 obtain ⟨gx, Cx, rfl, hbx, hCx, hwx, htx, h0x, hlx, hxC⟩ := hx.mk' (by omega)
 obtain ⟨gy, Cy, rfl, hby, hCy, hwy, hty, h0y, hly, hyC⟩ := hy.mk' (by omega)
 have hvx := hCx.row (xs := xs) htx (by omega)
 have hvy := hCy.row (xs := ys) hty (by omega)
 obtain ⟨k, hk⟩ : ∃ k, ys.length = k + 2 := ⟨ys.length - 2, by omega⟩
 obtain ⟨m, hm⟩ : ∃ m, xs.length = m + ys.length := ⟨xs.length - ys.length, by omega⟩
 obtain ⟨n, hn⟩ : ∃ n, ys.length = n := ⟨_, rfl⟩
 obtain ⟨l, hl'⟩ : ∃ l, xs.length = l := ⟨_, rfl⟩
 have hc := hvy (k + 1) (by omega)
 rw [Nat.zero_add] at hc
 obtain ⟨k1, hk1⟩ : ∃ k1, k + 1 = k1 := ⟨_, rfl⟩
 have htop : ys[k1]'(by omega) ≠ 0 := by
  rw [List.getLast_eq_getElem] at hlast
  have : ys.length - 1 = k1 := by omega
  simpa [this] using hlast
 have wt := wy.get k1 (by omega)
 simp only [hk1] at hc
 obtain ⟨t, ht⟩ : ∃ t, ys[k1]'(by omega) = t := ⟨_, rfl⟩
 rw [ht] at hc htop wt
 have hsh := nlz_le htop wt
 have hnm := nlz_norm htop wt
 have hP := Lib.hid (nlz_any t wt w)
 obtain ⟨sh, hshe⟩ : ∃ sh, nlzN t = sh := ⟨_, rfl⟩
 rw [hshe] at hsh hnm hP
 have hS := Lib.hid (stkSave w s hst)
 have hN := Lib.hid (stkNat w s n hst (by omega) (by omega))
 rw [hn] at hm hyC hty hk hn2 hyx hb4 ⊢
 rw [hl'] at hm hxC htx hyx hl ⊢
 have e1 : (n : Int) - 1 = k1 := by omega
 have e2 : (l : Int) - n = m := by omega
 have t1 : (k1 : Int) < n := by omega
 have t2 : (0 : Int) ≤ k1 := by omega
 have hst0 := hst
 have hlx9 : (digs WB b).length = n := by rw [hys]; exact hn
 have hzlt := h.lt
 have h2lt := h2.lt
 have hsl : s < w.heap.size := sizeOf_blk hst
 have hT := Lib.hid (fun (W : World) (T : Nat → Prop) (hk : Keeps T w W) (hT : ∀ k, k < GL → ¬ T k) => (hg.kept hk hT).div)
 have hNO := Lib.hid (fun (W : World) (T : Nat → Prop) (hk : Keeps T w W) (hT : ∀ k, zv.ownBlock = some k → ¬ T k) => h.kept hk hT)
 obtain ⟨l1, hl1⟩ : ∃ x, l + 1 = x := ⟨_, rfl⟩
 have Hl1 := Lib.hid hl1
 have hl1b : l1 ≤ 901 := by omega
 have el : (l : Int) + 1 = l1 := by omega
 obtain ⟨m1, hm1⟩ : ∃ x, m + 1 = x := ⟨_, rfl⟩
 have Hm1 := Lib.hid hm1
 have hm1b : m1 ≤ 901 := by omega
 have em : (m : Int) + 1 = m1 := by omega
 have hMk := Lib.hid (fun (W : World) (hk : Keeps (fun _ => False) w W) => make_any W base l1 z2 z2s (h2.kept hk (fun _ _ h => h)) (by omega) (by omega) (Nat.le_trans hB hk.size))
 have hlb := Lib.hid (And.intro hb2 (And.intro hba (And.intro hGL hsG)))
 have Hxs := Lib.hid hxs
 have Hys := Lib.hid hys
 have Ha := Lib.hid ha
 have Hb := Lib.hid hb
 have Hm := Lib.hid hm
 have Hn := Lib.hid hn
 have Hl := Lib.hid hl'
 have Hk := Lib.hid hk
 have Hk1 := Lib.hid hk1
 have Htx := Lib.hid htx
 have Hty := Lib.hid hty
 have Ht := Lib.hid (show ys[k1]? = some t by rw [← ht]; exact List.getElem?_eq_getElem _)
 have Hnm := Lib.hid hnm
 have Hwt := Lib.hid wt
 have Hsz := Lib.hid (And.intro hB (And.intro hl (And.intro hb4 (And.intro hn2 hyx))))
 have Hlx := Lib.hid hlx9
 clear hl1 hm1 hg hst ht hxs hys ha hb hm hn hl' hk hk1 htx hty hnm wt hb2 hba hlast hyx hlx9 hshe hxC hyC h0x h0y hlx hly
 go_enter_defers Tryz.func262, Tryz.ntmps262
 go_wp2_with fail
 refine hS.out.mono ?_
 rintro e w1 ⟨rfl, hw1⟩
 obtain rfl := hw1.symm
 go_wp2_with fail
 refine hP.out.mono ?_
 rintro e w1 ⟨rfl, hw1⟩
 obtain rfl := hw1.symm
 go_wp2_with fail
 refine hN.out.mono ?_
 rintro e w1 ⟨gv, cv, Cv, rfl, hcv, hCv, hgv, hbv, -, hks, hst1⟩
 have hst1 := hst1 (by have := Hsz.out.2.2.1; omega)
 have hk1w : Keeps (fun _ => False) w w1 := Keeps.dropStk (T := fun _ => False) (hks.mono (fun _ _ e => .inr e)) hst0 hst1
 have hMk1 := Lib.hid (hMk.out w1 hk1w)
 go_wp2_with fail
 refine hMk1.out.mono ?_
 rintro e w2 ⟨gu, Cu, rfl, hMd⟩
 have hk2 := hk1w.trans hMd.keep (fun _ _ h => h)
 have hst2 : StkNew w2 s := hMd.keep.at_ hst1 (fun h => h)
 have hbv2 := hbv.kept hMd.keep (fun h => h)
 have hvx2 := hvx.kept hk2 (fun h => h)
 have hvy2 := hvy.kept hk2 (fun h => h)
 have hbu2 := hMd.blk
 have hfit := hMd.fit
 have hguv : gu ≠ gv := fun e => by
  rcases hMd.own with h | h
  ·have := h2lt _ h; omega
  ·have := hbv.lt; omega
 have hguy : gu ≠ s := fun e => by subst e; exact (hbu2.notStk hst2) rfl
 have hgvs : gv ≠ s := fun e => by subst e; omega
 by_cases hs0 : sh = 0
 ·subst hs0
  have q1 := fitsVec (gz := gv) (Cz := Cv) hCv hvy2 Hn.out
  have s1 := midN0 gu l Cu.length 0 l (by omega) (by omega) (by have := Hl1.out; omega)
  have hc2 := Lib.hid (fun (w3 : World) (hsp : Spliced gv 225 (u64s Cv) 0 (u64s ys) w2 w3) => (show VecOut w2 w3 gv 0 Cv ys n ∧ Blk w3 gu Cu ∧ CopyFits w3 (some ⟨gu, 0, none⟩) (some ⟨gx, 0, none⟩) l l gu 0 (u64s Cu) (u64s xs) l from by
   have ho3 := VecOut.ofSplice hsp wy Hn.out
   have hvx3 := hvx2.kept ho3.keep (fun e => by have := hCx.lt; omega)
   exact ⟨ho3, hbu2.kept ho3.keep hguv, fitsVec (gz := gu) (Cz := Cu) (by have := Hl1.out; omega) hvx3 Hl.out⟩))
  have hc3 := Lib.hid (fun (w3 w4 : World) (hsp : Spliced gu 225 (u64s Cu) 0 (u64s xs) w3 w4) => (show VecOut w3 w4 gu 0 Cu xs l ∧ w4.frozen? ⟨gu, l, none⟩ = false ∧ ∃ u, w4.cell? ⟨gu, l, none⟩ = some u from by
   have ho4 := VecOut.ofSplice hsp wx Hl.out
   have hu := ho4.there (by have := Hl1.out; omega)
   rw [Nat.zero_add] at hu
   exact ⟨ho4, ho4.room l, hu⟩))
  go_wp2_with (first | (refine wpList_copy_kept rfl (.tmp 41) (.tmp 42) 137 137 rfl 225 Tryz.underlying137 Tryz.infoWsize (some ⟨gv, 0, none⟩) (some ⟨gy, 0, none⟩) n cv n Cy.length rfl rfl gv 0 (u64s Cv) 225 hbv2 (u64s ys) n q1 ?_; intro w3 hsp; obtain ⟨ho3, hbu3, q2⟩ := hc2.out w3 hsp) | (refine wpList_copy_kept rfl (.tmp 47) (.tmp 48) 137 137 rfl 225 Tryz.underlying137 Tryz.infoWsize (some ⟨gu, 0, none⟩) (some ⟨gx, 0, none⟩) l Cu.length l Cx.length rfl rfl gu 0 (u64s Cu) 225 hbu3 (u64s xs) l q2 ?_; intro w4 hsp2; obtain ⟨ho4, hf4, u4, hu4⟩ := hc3.out w3 w4 hsp2))
  have ho5 := ho4.snoc 0 WB_pos (by have := Hl1.out; omega)
  rw [Nat.zero_add] at ho5
  obtain ⟨w5, hw5⟩ : ∃ w5, w4.setCell ⟨gu, l, none⟩ (.int .u64 ((0 : Nat) : Int)) = w5 := ⟨_, rfl⟩
  rw [hw5] at ho5
  have hw5' := Lib.hid hw5
  clear hw5
  have hbv5 : Blk w5 gv (over Cv 0 ys) := ho3.blk.kept ho5.keep hguv.symm
  have hk5 : Keeps (fun k => k = gu ∨ k = gv) w w5 := (((hk2.mono (fun _ _ e => e.elim)).trans ho3.keep (fun k _ e => .inr e)).trans ho5.keep (fun k _ e => .inl e))
  obtain ⟨us, hus⟩ : ∃ us, xs ++ [0] = us := ⟨_, rfl⟩
  obtain ⟨vs, hvs⟩ : ∃ vs, ys = vs := ⟨_, rfl⟩
  obtain ⟨tu, htue⟩ : ∃ x, (0 : Nat) = x := ⟨_, rfl⟩
  obtain ⟨v1, hve⟩ : ∃ x, t = x := ⟨_, rfl⟩
  have hul : us.length = l1 := by rw [← hus, List.length_append, Hl.out]; exact Hl1.out
  have huw : Words WB us := by rw [← hus]; exact wx.snoc WB_pos
  have huv : val WB us = a * 2 ^ 0 := by rw [← hus, val_snoc, Ha.out]; simp
  have hvl : vs.length = n := by rw [← hvs]; exact Hn.out
  have hvw : Words WB vs := by rw [← hvs]; exact wy
  have hvv : val WB vs = b * 2 ^ 0 := by rw [← hvs, Hb.out]; simp
  have hv1 : vs[k + 1]? = some v1 := by rw [← hvs, ← hve, Hk1.out]; exact Ht.out
  have htu : us[l]? = some tu := by rw [← hus, ← htue, ← Hl.out]; simp
  have hnv : WB ≤ 2 * v1 := by have := Hnm.out.2; rw [← hve]; simpa using this
  have htv : tu < v1 := by have := WB_pos; omega
  have hbu5 : Blk w5 gu (over Cu 0 us) := by rw [← hus]; exact ho5.blk
  rw [hvs] at hbv5
  clear hus hvs htue hve ho4 ho5 q1 hbu2 hbv2 hvx2 hvy2
  rw [show (Value.int IntKind.u64 0) = (.int .u64 ((0 : Nat) : Int)) from rfl, hw5'.out]
  have hkT : Keeps (fun k => k = gu ∨ k = gv) w w5 := hk5
  have hst5 : StkNew w5 s := hk5.at_ hst0 (fun e => e.elim (fun e => hguy e.symm) (fun e => hgvs e.symm))
  have hlo : (over Cu 0 us).length = Cu.length := over_length _ _ _ (by omega)
  have hfo : (over Cv 0 vs).length = Cv.length := over_length _ _ _ (by omega)
  have hz5 := hNO.out w5 _ hk5 (fun k hk e => by
   have := hzlt k hk
   rcases e with e | e
   ·subst e
    rcases hMd.own with h | h
    ·exact hap _ hk h
    ·have := hk1w.size; omega
   ·omega)
  have huR : NatRow w5 base (.slice (some ⟨gu, 0, none⟩) l1 Cu.length) us := NatRow.laid hMd.base hbu5 hMd.words huw hul (by omega) (by omega) hMd.big
  have hAl := alias_any w5 base base zv _ zs us hz5 huR
  have hsb : sameBlk zv (.slice (some ⟨gu, 0, none⟩) l1 Cu.length) = false := by
   rw [Bool.eq_false_iff]
   intro hh
   obtain ⟨h1, h2⟩ := (sameBlk_iff _ _).1 hh
   have hk : zv.ownBlock = some gu := h1
   rcases hMd.own with h | h
   ·exact hap _ hk h
   ·have := hzlt _ hk; have := hk1w.size; omega
  rw [hsb] at hAl
  have hAl := Lib.hid hAl
  obtain ⟨pz, nz, cz, hzv, -⟩ := hz5.empty
  have hMq := Lib.hid (fun q => make_any (w5.drewN q) base m1 zv zs (hz5.kept ((Keeps.refl (fun _ => False) w5).drewN q) (fun _ _ h => h)) (by omega) (by have := Hm1.out; omega) (Nat.le_trans Hsz.out.1 (Keeps.size ((Keeps.refl (fun _ => False) w5).drewN q) |> Nat.le_trans hk5.size)))
  have hzlt := Lib.hid hzlt
  have hap' := Lib.hid hap
  subst hzv
  refine hAl.out.mono ?_
  rintro e w6 ⟨rfl, q6, rfl⟩
  go_wp2_with fail
  refine (hMq.out q6).mono ?_
  rintro e w7 ⟨gq, Cq, rfl, hMq7⟩
  have hk57 : Keeps (fun _ => False) w5 w7 := ((Keeps.refl (fun _ => False) w5).drewN q6).trans hMq7.keep (fun _ _ h => h)
  have hk7 : Keeps (fun k => k = gu ∨ k = gv) w w7 := hk5.trans hk57 (fun k _ e => e.elim)
  have hth := hT.out w7 _ hk7 (fun k hk e => by have h1 := hlb.out.2.2.1; have h3 := hMd.base; rcases e with e | e <;> omega)
  have hst7 : StkNew w7 s := hk57.at_ hst5 (fun h => h)
  have hbu7 := hbu5.kept hk57 (fun h => h)
  have hvv7 : Vec w7 gv 0 vs := (hbv5.laidVec (by omega)).kept hk57 (fun h => h)
  have hqlt := hMq7.blk.lt
  have hgqu : gq ≠ gu := fun e => by
   rcases hMq7.own with h | h
   ·rw [e] at h
    rcases hMd.own with h3 | h3
    ·exact hap'.out _ h h3
    ·have := hzlt.out _ h; have := hk1w.size; omega
   ·have := hbu5.lt
    have : w5.heap.size ≤ gq := Nat.le_trans (Keeps.size ((Keeps.refl (fun _ => False) w5).drewN q6)) h
    omega
  have hgvq : gv ≠ gq := fun e => by
   rcases hMq7.own with h | h
   ·have := hzlt.out _ h; omega
   ·have := hbv5.lt
    have : w5.heap.size ≤ gq := Nat.le_trans (Keeps.size ((Keeps.refl (fun _ => False) w5).drewN q6)) h
    omega
  have hDB := divBasic_any w7 s gq gu gv n m1 cv k v1 tu Cq (over Cu 0 us) us vs hst7 hMq7.blk hbu7 hvv7 (by rw [show m1 + n = us.length by rw [hul]; have := Hm1.out; have := Hl1.out; have := Hm.out; omega]; exact over_take_all (by omega)) (by rw [hlo]; have := Hm1.out; have := Hl1.out; have := Hm.out; omega) hMq7.fit Hk.out Hsz.out.2.2.1 (by have := Hm1.out; omega) (by have := Hm1.out; have := Hm.out; omega) hvl hvw huw hv1 (by rw [show m1 + n - 1 = l by have := Hm1.out; have := Hm.out; omega]; exact htu) hnv htv hgqu hguv.symm hgvq hcv
  rw [hlo, show m1 + n = l1 by have := Hm1.out; have := Hl1.out; have := Hm.out; omega] at hDB
  have hDB := Lib.hid hDB
  have Hk7 := Lib.hid (And.intro hk7 hk57)
  have t40 : (n : Int) < 40 := by have := Hsz.out.2.2.1; omega
  have Htv := Lib.hid (And.intro hnv htv)
  have Hv1 := Lib.hid (And.intro hv1 htu)
  clear hnv htv hv1 htu
  go_wp2_with fail
  refine hDB.out.mono ?_
  rintro e w8 ⟨rfl, us8, zs8, hbu8, hul8, huw8, huv8, hbq8, hzl8, hzw8, hzv8, hk8, hsi8, hsm8⟩
  have hqfit := hMq7.fit
  have hqo : (over Cq 0 zs8).length = Cq.length := over_length _ _ _ (by omega)
  have hqw := over_words0 hMq7.words hzw8
  have hNq := norm_row w8 base gq m1 (over Cq 0 zs8) hMq7.base hbq8 hqw (by omega) (by omega) (by have := hMq7.big; omega)
  have htq : (over Cq 0 zs8).take m1 = zs8 := by
   have := over_take_all (C := Cq) (us := zs8) (by omega)
   rwa [hzl8] at this
  rw [hqo, htq, hzv8, huv, hvv, Nat.mul_div_mul_right _ _ (two_pos 0)] at hNq
  have hNq := Lib.hid hNq
  rw [huv, hvv, Nat.mul_mod_mul_right] at huv8
  have huo8 : (over (over Cu 0 us) 0 us8).length = Cu.length := by rw [over_length _ _ _ (by rw [hlo]; have := Hm1.out; have := Hl1.out; have := Hm.out; omega), hlo]
  have huwo := over_words0 (over_words0 hMd.words huw) huw8
  have hul8' : us8.length = l1 := by have := Hm1.out; have := Hl1.out; have := Hm.out; omega
  have Huv8 := Lib.hid huv8
  clear huv8 hzv8
  go_wp2_with fail
  refine hNq.out.mono ?_
  rintro e w9 ⟨mq, rfl, hw9, hmq, hatq⟩
  obtain rfl := hw9.symm
  have htu8 : (over (over Cu 0 us) 0 us8).take l1 = us8 := by
   have := over_take_all (C := over Cu 0 us) (us := us8) (by omega)
   rwa [hul8'] at this
  have hNu := norm_row w8 base gu l1 (over (over Cu 0 us) 0 us8) hMd.base hbu8 huwo (by omega) (by omega) (by have := hMd.big; omega)
  rw [huo8, htu8, Huv8.out, Nat.pow_zero, Nat.mul_one] at hNu
  have hNu := Lib.hid hNu
  obtain ⟨WE, hWE⟩ : ∃ x, x = w8 := ⟨_, rfl⟩
  have HK := Lib.hid (show Keeps (fun k => k = gu) w8 WE by rw [hWE]; exact Keeps.refl _ _)
  have Hs9 := Lib.hid (show StkIn WE s w7.heap.size by rw [hWE]; exact hsi8)
  have Hm9 := Lib.hid (show n ≤ 3 → StkNew WE s by rw [hWE]; exact hsm8)
  have Hq9 := Lib.hid (show NatAt WE base (.slice (some ⟨gq, 0, none⟩) mq Cq.length) (a / b) by rw [hWE]; exact hatq)
  have HWE := Lib.hid hWE
  clear hWE hsi8 hsm8 hatq htu8 htq
  go_wp2_with fail
  refine hNu.out.mono ?_
  rintro e w9 ⟨mu, rfl, hw9, hmu, hatu⟩
  obtain rfl := hw9.symm
  go_wp2_with fail
  obtain rfl := HWE.out
  refine leaves_cons (by simp) rfl ?_
  refine (stkRestore _ s w7.heap.size Hs9.out _).mono ?_
  rintro e u w10 ⟨rfl, rfl, hs10, hk10, hnew⟩
  have hkA := HK.out
  have hbq := hMq7.blk.lt
  have hbu := hbu5.lt
  have hk57 := Hk7.out.2
  have hk7 := Hk7.out.1
  have hs57 := hk57.size
  have hs2 := hk1w.size
  have hsw := hk7.size
  have hqo : (Value.slice pz nz cz).ownBlock = some gq ∨ w.heap.size ≤ gq := hMq7.own.imp id (fun h => Nat.le_trans hk5.size (Nat.le_trans (Keeps.size ((Keeps.refl (fun _ => False) w5).drewN q6)) h))
  have huo : z2.ownBlock = some gu ∨ w.heap.size ≤ gu := hMd.own.imp id (fun h => Nat.le_trans hs2 h)
  refine ⟨.tuple #[.slice (some ⟨gq, 0, none⟩) mq Cq.length, .slice (some ⟨gu, 0, none⟩) mu Cu.length], by simp [results, Tryz.results262, go_sem], _, _, rfl, ⟨NatRow.kept Hq9.out hk10 (fun k hk e => ?_), NatRow.kept hatu hk10 (fun k hk e => ?_), ((((Keeps.refl _ w).trans hk7 (fun k hk e => ?_)).trans hk8 (fun k hk e => ?_)).trans hkA (fun k hk e => ?_)).trans hk10 (fun k hk e => by omega), fun k hk => ?_, fun k hk => ?_, fun k hk e => ?_, ⟨w7.heap.size, hsw, hs10, fun k hk => ?_⟩, fun h3 => ?_⟩⟩
  ·simp only [Value.ownBlock, Option.some.injEq] at hk; omega
  ·simp only [Value.ownBlock, Option.some.injEq] at hk; omega
  ·rcases e with e | e
   ·subst e; exact .inl (.inr (huo.resolve_right (by omega)))
   ·omega
  ·rcases e with e | e | e
   ·subst e; exact .inl (.inr (huo.resolve_right (by omega)))
   ·subst e; exact .inl (.inl (hqo.resolve_right (by omega)))
   ·exact .inr e
  ·subst e; exact .inl (.inr (huo.resolve_right (by omega)))
  ·simp only [Value.ownBlock, Option.some.injEq] at hk; subst hk; exact hqo
  ·simp only [Value.ownBlock, Option.some.injEq] at hk; subst hk; exact huo
  ·simp only [Value.ownBlock, Option.some.injEq] at hk e; omega
  ·simp only [Value.ownBlock, Option.some.injEq] at hk; omega
  ·have := Hm9.out (by rw [← Hlx.out]; exact h3)
   rw [hnew this]
   exact this
 ·have ts : ((sh : Int) == 0) = false := by simp; omega
  have hL1 := Lib.hid (lshVU_any w2 gv 0 cv gy 0 Cy.length n sh Cv ys hbv2 hvy2 Hn.out (by omega) (.inl (by have := hCy.lt; omega)) wy (by omega) hsh (by have := Hsz.out.2.2.2.1; omega) (by have := Hsz.out.2.2.1; omega))
  have hL2 := Lib.hid (fun (W : World) (hk : Keeps (fun k => k = gv) w2 W) => lshVU_any W gu 0 Cu.length gx 0 Cx.length l sh Cu xs (hbu2.kept hk hguv) (hvx2.kept hk (fun e => by have := hCx.lt; omega)) Hl.out (by have := Hl1.out; omega) (.inr rfl) wx (by omega) hsh (by have := Hsz.out.2.2.2.1; have := Hsz.out.2.2.2.2; omega) (by omega))
  go_wp2_with fail
  refine hL1.out.mono ?_
  rintro e w3 ⟨rfl, ho3⟩
  have hL2' := Lib.hid (hL2.out w3 ho3.keep)
  go_wp2_with fail
  refine hL2'.out.mono ?_
  rintro e w4 ⟨rfl, ho4⟩
  have hcl := shlC_lt0 sh xs (by omega) wx
  have ho5 := ho4.snoc _ hcl (by have := Hl1.out; omega)
  obtain ⟨u4, hu4⟩ := ho4.there (by have := Hl1.out; omega)
  have hf4 := ho4.room l
  rw [Nat.zero_add] at ho5 hu4
  obtain ⟨tu, htue⟩ : ∃ x, shlC sh 0 xs = x := ⟨_, rfl⟩
  obtain ⟨w5, hw5⟩ : ∃ w5, w4.setCell ⟨gu, l, none⟩ (.int .u64 ((shlC sh 0 xs : Nat) : Int)) = w5 := ⟨_, rfl⟩
  rw [hw5] at ho5
  have hw5' := Lib.hid hw5
  clear hw5
  have hbv5 : Blk w5 gv (over Cv 0 (shlW sh 0 ys)) := ho3.blk.kept ho5.keep hguv.symm
  have hk5 : Keeps (fun k => k = gu ∨ k = gv) w w5 := (((hk2.mono (fun _ _ e => e.elim)).trans ho3.keep (fun k _ e => .inr e)).trans ho5.keep (fun k _ e => .inl e))
  obtain ⟨us, hus⟩ : ∃ us, shlW sh 0 xs ++ [shlC sh 0 xs] = us := ⟨_, rfl⟩
  obtain ⟨vs, hvs⟩ : ∃ vs, shlW sh 0 ys = vs := ⟨_, rfl⟩
  have hul : us.length = l1 := by rw [← hus, List.length_append, shlW_length, Hl.out]; exact Hl1.out
  have huw : Words WB us := by rw [← hus]; exact ho5.words
  have huv : val WB us = a * 2 ^ sh := by rw [← hus, scale_us (by omega), Ha.out]
  have hvl : vs.length = n := by rw [← hvs, shlW_length]; exact Hn.out
  have hvw : Words WB vs := by rw [← hvs]; exact ho3.words
  have hvv : val WB vs = b * 2 ^ sh := by rw [← hvs, scale_vs (k1 := k1) hsh (by rw [Hn.out]; have := Hk.out; have := Hk1.out; omega) Ht.out Hnm.out.1, Hb.out]
  obtain ⟨v1, hv1, hnv⟩ := scale_top (ys := ys) (k := k) hsh Hk1.out Ht.out Hnm.out.1 Hnm.out.2
  have htv : tu < v1 := by rw [← htue]; exact scale_tu hsh wx Hl.out (by have := Hsz.out.2.2.2.1; have := Hsz.out.2.2.2.2; omega) hnv
  rw [hvs] at hv1
  have htu : us[l]? = some tu := by rw [← hus, ← htue, List.getElem?_append_right (by rw [shlW_length, Hl.out]; exact Nat.le_refl _), shlW_length, Hl.out]; simp
  have hbu5 : Blk w5 gu (over Cu 0 us) := by rw [← hus]; exact ho5.blk
  rw [hvs] at hbv5
  have Htue := Lib.hid htue
  rw [htue] at hw5'
  clear hus hvs hcl htue ho3 ho4 ho5 hbu2 hbv2 hvx2 hvy2
  go_wp2_with fail
  first | rw [hw5'.out] | rw [Htue.out, hw5'.out]
  have hkT : Keeps (fun k => k = gu ∨ k = gv) w w5 := hk5
  have hst5 : StkNew w5 s := hk5.at_ hst0 (fun e => e.elim (fun e => hguy e.symm) (fun e => hgvs e.symm))
  have hlo : (over Cu 0 us).length = Cu.length := over_length _ _ _ (by omega)
  have hfo : (over Cv 0 vs).length = Cv.length := over_length _ _ _ (by omega)
  have hz5 := hNO.out w5 _ hk5 (fun k hk e => by
   have := hzlt k hk
   rcases e with e | e
   ·subst e
    rcases hMd.own with h | h
    ·exact hap _ hk h
    ·have := hk1w.size; omega
   ·omega)
  have huR : NatRow w5 base (.slice (some ⟨gu, 0, none⟩) l1 Cu.length) us := NatRow.laid hMd.base hbu5 hMd.words huw hul (by omega) (by omega) hMd.big
  have hAl := alias_any w5 base base zv _ zs us hz5 huR
  have hsb : sameBlk zv (.slice (some ⟨gu, 0, none⟩) l1 Cu.length) = false := by
   rw [Bool.eq_false_iff]
   intro hh
   obtain ⟨h1, h2⟩ := (sameBlk_iff _ _).1 hh
   have hk : zv.ownBlock = some gu := h1
   rcases hMd.own with h | h
   ·exact hap _ hk h
   ·have := hzlt _ hk; have := hk1w.size; omega
  rw [hsb] at hAl
  have hAl := Lib.hid hAl
  obtain ⟨pz, nz, cz, hzv, -⟩ := hz5.empty
  have hMq := Lib.hid (fun q => make_any (w5.drewN q) base m1 zv zs (hz5.kept ((Keeps.refl (fun _ => False) w5).drewN q) (fun _ _ h => h)) (by omega) (by have := Hm1.out; omega) (Nat.le_trans Hsz.out.1 (Keeps.size ((Keeps.refl (fun _ => False) w5).drewN q) |> Nat.le_trans hk5.size)))
  have hzlt := Lib.hid hzlt
  have hap' := Lib.hid hap
  subst hzv
  refine hAl.out.mono ?_
  rintro e w6 ⟨rfl, q6, rfl⟩
  go_wp2_with fail
  refine (hMq.out q6).mono ?_
  rintro e w7 ⟨gq, Cq, rfl, hMq7⟩
  have hk57 : Keeps (fun _ => False) w5 w7 := ((Keeps.refl (fun _ => False) w5).drewN q6).trans hMq7.keep (fun _ _ h => h)
  have hk7 : Keeps (fun k => k = gu ∨ k = gv) w w7 := hk5.trans hk57 (fun k _ e => e.elim)
  have hth := hT.out w7 _ hk7 (fun k hk e => by have h1 := hlb.out.2.2.1; have h3 := hMd.base; rcases e with e | e <;> omega)
  have hst7 : StkNew w7 s := hk57.at_ hst5 (fun h => h)
  have hbu7 := hbu5.kept hk57 (fun h => h)
  have hvv7 : Vec w7 gv 0 vs := (hbv5.laidVec (by omega)).kept hk57 (fun h => h)
  have hqlt := hMq7.blk.lt
  have hgqu : gq ≠ gu := fun e => by
   rcases hMq7.own with h | h
   ·rw [e] at h
    rcases hMd.own with h3 | h3
    ·exact hap'.out _ h h3
    ·have := hzlt.out _ h; have := hk1w.size; omega
   ·have := hbu5.lt
    have : w5.heap.size ≤ gq := Nat.le_trans (Keeps.size ((Keeps.refl (fun _ => False) w5).drewN q6)) h
    omega
  have hgvq : gv ≠ gq := fun e => by
   rcases hMq7.own with h | h
   ·have := hzlt.out _ h; omega
   ·have := hbv5.lt
    have : w5.heap.size ≤ gq := Nat.le_trans (Keeps.size ((Keeps.refl (fun _ => False) w5).drewN q6)) h
    omega
  have hDB := divBasic_any w7 s gq gu gv n m1 cv k v1 tu Cq (over Cu 0 us) us vs hst7 hMq7.blk hbu7 hvv7 (by rw [show m1 + n = us.length by rw [hul]; have := Hm1.out; have := Hl1.out; have := Hm.out; omega]; exact over_take_all (by omega)) (by rw [hlo]; have := Hm1.out; have := Hl1.out; have := Hm.out; omega) hMq7.fit Hk.out Hsz.out.2.2.1 (by have := Hm1.out; omega) (by have := Hm1.out; have := Hm.out; omega) hvl hvw huw hv1 (by rw [show m1 + n - 1 = l by have := Hm1.out; have := Hm.out; omega]; exact htu) hnv htv hgqu hguv.symm hgvq hcv
  rw [hlo, show m1 + n = l1 by have := Hm1.out; have := Hl1.out; have := Hm.out; omega] at hDB
  have hDB := Lib.hid hDB
  have Hk7 := Lib.hid (And.intro hk7 hk57)
  have t40 : (n : Int) < 40 := by have := Hsz.out.2.2.1; omega
  have Htv := Lib.hid (And.intro hnv htv)
  have Hv1 := Lib.hid (And.intro hv1 htu)
  clear hnv htv hv1 htu
  go_wp2_with fail
  refine hDB.out.mono ?_
  rintro e w8 ⟨rfl, us8, zs8, hbu8, hul8, huw8, huv8, hbq8, hzl8, hzw8, hzv8, hk8, hsi8, hsm8⟩
  have hqfit := hMq7.fit
  have hqo : (over Cq 0 zs8).length = Cq.length := over_length _ _ _ (by omega)
  have hqw := over_words0 hMq7.words hzw8
  have hNq := norm_row w8 base gq m1 (over Cq 0 zs8) hMq7.base hbq8 hqw (by omega) (by omega) (by have := hMq7.big; omega)
  have htq : (over Cq 0 zs8).take m1 = zs8 := by
   have := over_take_all (C := Cq) (us := zs8) (by omega)
   rwa [hzl8] at this
  rw [hqo, htq, hzv8, huv, hvv, Nat.mul_div_mul_right _ _ (two_pos sh)] at hNq
  have hNq := Lib.hid hNq
  rw [huv, hvv, Nat.mul_mod_mul_right] at huv8
  have huo8 : (over (over Cu 0 us) 0 us8).length = Cu.length := by rw [over_length _ _ _ (by rw [hlo]; have := Hm1.out; have := Hl1.out; have := Hm.out; omega), hlo]
  have huwo := over_words0 (over_words0 hMd.words huw) huw8
  have hul8' : us8.length = l1 := by have := Hm1.out; have := Hl1.out; have := Hm.out; omega
  have Huv8 := Lib.hid huv8
  clear huv8 hzv8
  go_wp2_with fail
  refine hNq.out.mono ?_
  rintro e w9 ⟨mq, rfl, hw9, hmq, hatq⟩
  obtain rfl := hw9.symm
  have hVu : Vec w8 gu 0 us8 := hbu8.laidVec (by rw [hlo]; omega)
  have hRs := rshVU_any w8 gu 0 Cu.length gu 0 Cu.length l1 sh (over (over Cu 0 us) 0 us8) us8 hbu8 hVu hul8' (by omega) (.inr rfl) huw8 (by omega) hsh (by have := Hl1.out; omega) (by omega)
  have hRs := Lib.hid hRs
  go_wp2_with fail
  refine hRs.out.mono ?_
  rintro e w9 ⟨⟨c9, rfl⟩, ho9⟩
  have hvw9 : val WB (shrW sh us8) = a % b := by rw [shrW_val (by omega), Huv8.out, Nat.mul_div_cancel _ (two_pos sh)]
  have hoo9 : (over (over (over Cu 0 us) 0 us8) 0 (shrW sh us8)).length = Cu.length := by rw [over_length _ _ _ (by rw [ho9.len]; omega), huo8]
  have htu9 : (over (over (over Cu 0 us) 0 us8) 0 (shrW sh us8)).take l1 = shrW sh us8 := by
   have := over_take_all (C := over (over Cu 0 us) 0 us8) (us := shrW sh us8) (by rw [ho9.len]; omega)
   rwa [ho9.len] at this
  have hNu := norm_row w9 base gu l1 (over (over (over Cu 0 us) 0 us8) 0 (shrW sh us8)) hMd.base ho9.blk (over_words0 huwo ho9.words) (by omega) (by omega) (by have := hMd.big; omega)
  rw [hoo9, htu9, hvw9] at hNu
  have hNu := Lib.hid hNu
  have HK := Lib.hid ho9.keep
  have Hs9 := Lib.hid (hsi8.kept ho9.keep (fun k hk => ⟨_, hk ▸ hbu8⟩))
  have Hm9 := Lib.hid (fun h3 : n ≤ 3 => (show StkNew w9 s from ho9.keep.at_ (hsm8 h3) (fun e => hguy e.symm)))
  have Hq9 := Lib.hid (show NatAt w9 base (.slice (some ⟨gq, 0, none⟩) mq Cq.length) (a / b) from NatRow.kept hatq ho9.keep (fun k hk e => by simp only [Value.ownBlock, Option.some.injEq] at hk; omega))
  clear hsi8 hsm8 hatq htq hvw9 hoo9 htu9 ho9
  go_wp2_with fail
  refine hNu.out.mono ?_
  rintro e WE ⟨mu, rfl, hw9, hmu, hatu⟩
  obtain rfl := hw9.symm
  go_wp2_with fail
  refine leaves_cons (by simp) rfl ?_
  refine (stkRestore _ s w7.heap.size Hs9.out _).mono ?_
  rintro e u w10 ⟨rfl, rfl, hs10, hk10, hnew⟩
  have hkA := HK.out
  have hbq := hMq7.blk.lt
  have hbu := hbu5.lt
  have hk57 := Hk7.out.2
  have hk7 := Hk7.out.1
  have hs57 := hk57.size
  have hs2 := hk1w.size
  have hsw := hk7.size
  have hqo : (Value.slice pz nz cz).ownBlock = some gq ∨ w.heap.size ≤ gq := hMq7.own.imp id (fun h => Nat.le_trans hk5.size (Nat.le_trans (Keeps.size ((Keeps.refl (fun _ => False) w5).drewN q6)) h))
  have huo : z2.ownBlock = some gu ∨ w.heap.size ≤ gu := hMd.own.imp id (fun h => Nat.le_trans hs2 h)
  refine ⟨.tuple #[.slice (some ⟨gq, 0, none⟩) mq Cq.length, .slice (some ⟨gu, 0, none⟩) mu Cu.length], by simp [results, Tryz.results262, go_sem], _, _, rfl, ⟨NatRow.kept Hq9.out hk10 (fun k hk e => ?_), NatRow.kept hatu hk10 (fun k hk e => ?_), ((((Keeps.refl _ w).trans hk7 (fun k hk e => ?_)).trans hk8 (fun k hk e => ?_)).trans hkA (fun k hk e => ?_)).trans hk10 (fun k hk e => by omega), fun k hk => ?_, fun k hk => ?_, fun k hk e => ?_, ⟨w7.heap.size, hsw, hs10, fun k hk => ?_⟩, fun h3 => ?_⟩⟩
  ·simp only [Value.ownBlock, Option.some.injEq] at hk; omega
  ·simp only [Value.ownBlock, Option.some.injEq] at hk; omega
  ·rcases e with e | e
   ·subst e; exact .inl (.inr (huo.resolve_right (by omega)))
   ·omega
  ·rcases e with e | e | e
   ·subst e; exact .inl (.inr (huo.resolve_right (by omega)))
   ·subst e; exact .inl (.inl (hqo.resolve_right (by omega)))
   ·exact .inr e
  ·subst e; exact .inl (.inr (huo.resolve_right (by omega)))
  ·simp only [Value.ownBlock, Option.some.injEq] at hk; subst hk; exact hqo
  ·simp only [Value.ownBlock, Option.some.injEq] at hk; subst hk; exact huo
  ·simp only [Value.ownBlock, Option.some.injEq] at hk e; omega
  ·simp only [Value.ownBlock, Option.some.injEq] at hk; omega
  ·have := Hm9.out (by rw [← Hlx.out]; exact h3)
   rw [hnew this]
   exact this
end Go.Proofs.YtgamldefngehlaaGreatDoor
