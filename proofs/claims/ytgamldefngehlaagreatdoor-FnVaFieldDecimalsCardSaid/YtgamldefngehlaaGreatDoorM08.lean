/- Parts of the walk. -/
import Derived.Test.YtgamldefngehlaaGreatDoorM01
import Derived.Test.YtgamldefngehlaaGreatDoorM04
import Derived.Lib.SliceRun
import Derived.Deep.RegionHeld3
set_option linter.unusedVariables false
set_option linter.unusedSimpArgs false
namespace Go.Proofs.YtgamldefngehlaaGreatDoor
open Go.RowKit
set_option maxRecDepth 100000 in
set_option maxHeartbeats 1000000 in
theorem mulAddWW_any (w : World) (base bx y r : Nat) (zv xv : Value) (zs xs : List Nat) (h : NatRow w base zv zs) (hx : NatRow w bx xv xs) (hB : base ≤ w.heap.size) (hl : xs.length ≤ 10000) (hy : y < WB) (hr : r < WB) :
  Calls Tryz.prog 284 #[zv, xv, .int .u64 y, .int .u64 r] w fun e w' => ∃ v', e = .returned v' ∧ NatOut w w' base zv v' (digs WB (val WB xs * y + r)) := by
 have wx := hx.words
 by_cases h0 : xs.length = 0 ∨ y = 0
 ·have hS := Lib.hid (setWord_any w base zv zs r h hr hB)
  obtain ⟨px, cx, rfl⟩ := hx.form
  have hv : val WB xs * y + r = r := by
   rcases h0 with h0 | h0
   ·rw [List.eq_nil_of_length_eq_zero h0, val_nil]; omega
   ·subst h0; omega
  by_cases h1 : xs.length = 0
  ·have t1 : (xs.length : Int) = 0 := by omega
   go_enter Tryz.func284, Tryz.ntmps284
   go_wp2_with fail
   refine hS.out.mono ?_
   rintro e w1 ⟨v', rfl, ho⟩
   go_wp2_with fail
   go_ret
   exact ⟨_, rfl, by rw [hv]; exact ho⟩
  ·have t1 : ¬ (xs.length : Int) = 0 := by omega
   have t2 : (y : Int) = 0 := by omega
   go_enter Tryz.func284, Tryz.ntmps284
   go_wp2_with fail
   refine hS.out.mono ?_
   rintro e w1 ⟨v', rfl, ho⟩
   go_wp2_with fail
   go_ret
   exact ⟨_, rfl, by rw [hv]; exact ho⟩
 ·obtain ⟨gx, Cx, rfl, hbx, hCx, hwx, htx, h0x, hlx, hxC⟩ := hx.mk' (by omega)
  have hvx := hCx.row (xs := xs) htx (by omega)
  obtain ⟨m, hm⟩ : ∃ m, xs.length = m := ⟨_, rfl⟩
  have hM := make_any w base (m + 1) zv zs h (by omega) (by omega) hB
  have em : ((m + 1 : Nat) : Int) = (m : Int) + 1 := by omega
  rw [em] at hM
  have hM := Lib.hid hM
  rw [hm] at hl htx hxC h0 ⊢
  have t1 : ((m : Int) == 0) = false := by simp; omega
  have t2 : ((y : Int) == 0) = false := by simp; omega
  go_enter Tryz.func284, Tryz.ntmps284
  go_wp2_with fail
  refine hM.out.mono ?_
  rintro e w1 ⟨g, C, rfl, hmd⟩
  have hf := hmd.fit
  have t3 : (m : Int) ≤ C.length := by omega
  have hP := Lib.hid (mulAddVWW_any w1 g 0 C.length gx 0 Cx.length m y r C xs hmd.blk (hvx.keptN hmd.keep) hm (by omega) (.inr rfl) wx hy hr (by omega))
  go_wp2_with fail
  refine hP.out.mono ?_
  rintro e w2 ⟨z1, c1, rfl, hc1, hv1, ho1⟩
  have ho4 := ho1.snoc c1 hc1 (by omega)
  rw [Nat.zero_add] at ho4
  have hc := ho1.there (by omega)
  rw [Nat.zero_add] at hc
  obtain ⟨u, hc⟩ := hc
  have hfr := ho1.room m
  have hN := Lib.hid (hmd.normCall (by omega) ho4 (show val WB (z1 ++ [c1]) = val WB xs * y + r by rw [val_snoc, ho1.len, hv1]))
  clear ho4 ho1
  go_wp2_with fail
  refine hN.out.mono ?_
  rintro e w5 ⟨v', rfl, hw5, ho⟩
  obtain rfl := hw5.symm
  go_wp2_with fail
  go_ret
  exact ⟨_, rfl, ho⟩
theorem VecOut.cells {w : World} {g o : Nat} {C : List Nat} : ∀ (ds zs : List Nat) (w1 : World) (n : Nat), VecOut w w1 g o C zs n → Words WB ds → o + n + ds.length ≤ C.length → VecOut w (w1.setCells g (o + n) (u64s ds)) g o C (zs ++ ds) (n + ds.length)
 | [], zs, w1, n, h, _, _ => by simpa [World.setCells] using h
 | d :: ds, zs, w1, n, h, hw, hl => by
  simp only [List.length_cons] at hl
  have h1 := h.snoc d (hw d (by simp)) (by omega)
  have h2 := VecOut.cells ds _ _ _ h1 (fun x hx => hw x (by simp [hx])) (by omega)
  simp only [List.append_assoc, List.singleton_append] at h2
  rw [show n + 1 + ds.length = n + (d :: ds).length by simp; omega] at h2
  exact h2
theorem zeroW (w : World) : (zeroValue 225).run Tryz.prog w = .ok (.int .u64 0) w := by
 obtain ⟨i, hi, hzz⟩ := Option.map_eq_some_iff.1 Tryz.infoW
 simp only [Prod.mk.injEq] at hzz
 simp [zeroValue, typeInfo, hi, hzz.1]
theorem clearRun {w : World} {g n c : Nat} {C : List Nat} (h : Blk w g C) (hn : 0 < n) (hC : n ≤ C.length) (ty : TypeId) :
  (Builtin.clear_ #[137] ty #[.slice (some ⟨g, 0, none⟩) n c]).run Tryz.prog w = .ok (.tuple #[]) (w.setCells g 0 (List.replicate n (.int .u64 0))) :=
 Lib.run_clear_slice w _ _ _ _ Tryz.underlying137 zeroW rfl rfl g 0 n c hn (fun j hj => by rw [Nat.zero_add, h.cell j (by omega)]; rfl) (fun j hj => h.frozen _)
theorem over_in (C L ws : List Nat) (i : Nat) (hi : i + ws.length ≤ L.length) (hL : L.length ≤ C.length) : over (over C 0 L) i ws = over C 0 (over L i ws) := by
 have hl1 : (over C 0 L).length = C.length := over_length _ _ _ (by omega)
 have hl2 : (over L i ws).length = L.length := over_length _ _ _ (by omega)
 refine List.ext_getElem? fun j => ?_
 by_cases h1 : j < i
 ·rw [over_get_lt _ _ _ _ h1 (by omega), over_get_in _ _ _ _ (by omega) (by omega) (by omega), over_get_in _ _ _ _ (by omega) (by omega) (by omega), Nat.sub_zero, over_get_lt _ _ _ _ h1 (by omega)]
 ·by_cases h2 : j < i + ws.length
  ·rw [over_get_in _ _ _ _ (by omega) h2 (by omega), over_get_in _ _ _ _ (by omega) (by omega) (by omega), Nat.sub_zero, over_get_in _ _ _ _ (by omega) h2 (by omega)]
  ·rw [over_get_ge _ _ _ _ (by omega) (by omega)]
   by_cases h3 : j < L.length
   ·rw [over_get_in _ _ _ _ (by omega) (by omega) (by omega), over_get_in _ _ _ _ (by omega) (by omega) (by omega), Nat.sub_zero, over_get_ge _ _ _ _ (by omega) (by omega)]
   ·rw [over_get_ge _ _ _ _ (by omega) (by omega), over_get_ge _ _ _ _ (by omega) (by omega)]
theorem VecOut.within {w w1 w2 : World} {g k i m : Nat} {C L ws : List Nat} (h : VecOut w w1 g 0 C L k) (h' : VecOut w1 w2 g i (over C 0 L) ws m) (hi : i + m ≤ k) (hk : k ≤ C.length) : VecOut w w2 g 0 C (over L i ws) k := by
 have e := over_in C L ws i (by rw [h.len, h'.len]; omega) (by rw [h.len]; omega)
 refine ⟨by rw [over_length _ _ _ (by rw [h.len, h'.len]; omega), h.len], over_words h.words h'.words, ?_, h.keep.trans h'.keep (fun _ _ e => e)⟩
 rw [← e]; exact h'.blk
theorem VecOut.vec {w w1 : World} {g k : Nat} {C L : List Nat} (h : VecOut w w1 g 0 C L k) (hk : k ≤ C.length) : Vec w1 g 0 L := fun j hj => by
 have hl : (over C 0 L).length = C.length := over_length _ _ _ (by rw [h.len]; omega)
 have hjk : j < k := by rw [← h.len]; exact hj
 rw [Nat.zero_add, cellOf h.blk]
 have := over_get_in C 0 L j (Nat.zero_le _) (by omega) (by omega)
 rw [Nat.sub_zero, List.getElem?_eq_getElem hj] at this
 simp [u64s, this]
theorem over_mid (zs ws : List Nat) (i m q : Nat) (hz : zs.length = m + i) (hw : ws.length = m + 1) : over (zs ++ List.replicate (q + 1) 0) i ws = zs.take i ++ ws ++ List.replicate q 0 := by
 unfold over
 rw [List.take_append_of_le_length (by omega), List.append_assoc]
 congr 2
 rw [hw, List.drop_append, List.drop_of_length_le (by omega), hz, List.nil_append, List.drop_replicate]
 congr 1
 omega
theorem mul_step {B : Nat} {zs ws xs ys : List Nat} {i m c : Nat} (hi : i < ys.length) (hz : zs.length = m + i) (hw : ws.length = m) (hv : val B zs = val B xs * val B (ys.take i)) (h : val B ws + B ^ m * c = val B (zs.drop i) + val B xs * ys[i] + 0) :
  val B (zs.take i ++ (ws ++ [c])) = val B xs * val B (ys.take (i + 1)) := by
 have hs := val_split (B := B) zs i (by omega)
 have e : B ^ i * (val B xs * ys[i]) = val B xs * (B ^ i * ys[i]) := Nat.mul_left_comm _ _ _
 rw [val_append, val_snoc, hw, val_take_succ ys i hi, h, List.length_take, Nat.min_eq_left (by omega), Nat.add_zero, Nat.mul_add (B ^ i), Nat.mul_add (val B xs), ← hv, e]
 omega
set_option maxRecDepth 100000 in
set_option maxHeartbeats 1000000 in
theorem basicMul_any (w : World) (g gx gy m n cx cy k : Nat) (C xs ys : List Nat) (hz : Blk w g C) (hx : Vec w gx 0 xs) (hy : Vec w gy 0 ys) (hm : xs.length = m) (hn : ys.length = n) (hC : k ≤ C.length) (hk : m + n = k) (h0 : 0 < m) (hl : k ≤ 10000) (ax : gx ≠ g) (ay : gy ≠ g)
  (wx : Words WB xs) (wy : Words WB ys) :
  Calls Tryz.prog 317 #[.slice (some ⟨g, 0, none⟩) k C.length, .slice (some ⟨gx, 0, none⟩) m cx, .slice (some ⟨gy, 0, none⟩) n cy] w fun e w' => ∃ zs, e = .returned (.tuple #[]) ∧ val WB zs = val WB xs * val WB ys ∧ VecOut w w' g 0 C zs k := by
 have hcl := clearRun (c := C.length) hz (n := k) (by omega) hC
 have hv0 := VecOut.cells (List.replicate k 0) [] w 0 (.start (oz := 0) hz) (Words.replicate WB_pos k) (by simp; omega)
 rw [Nat.zero_add, Nat.zero_add, List.length_replicate, List.nil_append, show u64s (List.replicate k 0) = List.replicate k (.int .u64 0) by simp [u64s]] at hv0
 generalize hW : w.setCells g 0 (List.replicate k (.int .u64 0)) = W at hcl hv0
 have e1 : (m : Int) + n = (k : Int) := by omega
 have e2 : (k : Int) ≤ C.length := by omega
 go_enter Tryz.func317, Tryz.ntmps317
 go_wp2_with fail
 go_loopw [17] (fun i wr => ∃ (j : Nat) (zs : List Nat), j ≤ n ∧ i = .int .i64 j ∧ zs.length = m + j ∧ val WB zs = val WB xs * val WB (ys.take j) ∧ VecOut w wr g 0 C (zs ++ List.replicate (n - j) 0) k) (fun i _ => n - (intOf i).toNat)
 case atStart => exact ⟨0, List.replicate m 0, Nat.zero_le _, rfl, by simp, by simp [val, val_replicate], by rw [List.replicate_append_replicate, Nat.sub_zero, hk]; exact hv0⟩
 case round =>
  obtain ⟨j, zs, hj, rfl, hzl, hval, ho⟩ := hrel
  by_cases hlt : j < n
  ·have hyk := ho.keep.cellS (hy j (by omega)) ay
   rw [Nat.zero_add] at hyk
   have wyk := wy.get j (by omega)
   have t0 : (j : Int) < n := by omega
   obtain ⟨q, hq⟩ : ∃ q, n - j = q + 1 := ⟨n - j - 1, by omega⟩
   have hq' : n - (j + 1) = q := by omega
   by_cases hd : ys[j] = 0
   ·rw [hd] at hyk
    go_wp2_with fail
    go_roundw
    case rel =>
     refine ⟨j + 1, zs ++ [0], by omega, by go_num, by simp; omega, ?_, ?_⟩
     ·rw [val_snoc, val_take_succ ys j (by omega), hd, hval]; simp
     ·rw [hq', List.append_assoc]
      rw [hq] at ho
      simpa [List.replicate_succ] using ho
    case measure => simp [intOf]; omega
   ·have hd' : ¬ ((ys[j] : Nat) : Int) = 0 := by omega
    generalize hyd : ys[j] = d at *
    have hvz : Vec _ g 0 _ := ho.vec hC
    obtain ⟨p, hp⟩ : ∃ p, m + j = p := ⟨_, rfl⟩
    have e3 : (m : Int) + j = (p : Int) := by omega
    have e4 : (j : Int) + m = (p : Int) := by omega
    have s1 := midN0 g k C.length j p (by omega) (by omega) (by omega)
    rw [show p - j = m by omega] at s1
    have hlo : (over C 0 (zs ++ List.replicate (n - j) 0)).length = C.length := over_length _ _ _ (by rw [ho.len]; omega)
    have ws0 : Words WB zs := fun x hx => ho.words x (by simp [hx])
    have hvd : Vec wr.drew g j (zs.drop j) := fun i hi => by
     simp only [List.length_drop] at hi
     have := hvz (j + i) (by simp; omega)
     rw [Nat.zero_add] at this
     rw [show (wr.drew).cell? ⟨g, j + i, none⟩ = wr.cell? ⟨g, j + i, none⟩ from rfl, this]
     simp [List.getElem_append_left (show j + i < zs.length by omega)]
    have hP := Lib.hid (addMulVVWW_any wr.drew g j (C.length - j) g j (C.length - j) gx 0 cx m d 0 (over C 0 (zs ++ List.replicate (n - j) 0)) (zs.drop j) xs ho.drew.blk hvd (hx.kept ho.keep.drew ax) (by simp; omega) hm (by rw [hlo]; omega) (.inr rfl) (.inl ax) (ws0.drop j) wx wyk WB_pos (by omega))
    clear e1
    have w5 : IntKind.i64.wrap (p : Int) = (p : Int) := by rw [IntKind.wrap_i64]; omega
    have w5' := Lib.hid w5
    clear w5
    go_wp2_with fail
    have w5 := w5'.out
    have b1 : (p : Int) < k := by omega
    have b2 : (0 : Int) ≤ p := by omega
    go_region_held3 (fun _ => True) (trivial) ((go_at_call 334; refine hP.out.mono ?_; rintro e w2 ⟨ws, c, rfl, hcl1, hv1, ho2⟩; obtain ⟨u, hcu⟩ := ho2.there (by rw [hlo]; omega); have hfr := ho2.room p; rw [show j + m = p by omega] at hcu))
    go_wp2_with fail
    go_roundw
    case rel =>
     have h3 := ho2.snoc c hcl1 (by rw [hlo]; omega)
     rw [show j + m = p by omega] at h3
     have h4 := ho.drew.within h3 (by omega) hC
     rw [hq, over_mid zs (ws ++ [c]) j m q hzl (by simp [ho2.len])] at h4
     refine ⟨j + 1, zs.take j ++ (ws ++ [c]), by omega, by go_num, by simp [ho2.len]; omega, ?_, by rw [hq']; exact h4⟩
     subst hyd
     exact mul_step (by omega) hzl ho2.len hval hv1
    case measure => simp [intOf]; omega
  ·obtain rfl : j = n := by omega
   go_wp2_with fail
   go_end0
   refine ⟨_, rfl, ?_, ho⟩
   rw [Nat.sub_self, List.replicate_zero, List.append_nil, hval, List.take_of_length_le (by omega)]
end Go.Proofs.YtgamldefngehlaaGreatDoor
namespace Go.Proofs.YtgamldefngehlaaGreatDoor
open Go.RowKit
structure Thr (w : World) : Prop where
 div : w.cell? ⟨2, 0, none⟩ = some (.int .i64 40)
 mul : w.cell? ⟨7, 0, none⟩ = some (.int .i64 40)
 sqr : w.cell? ⟨5, 0, none⟩ = some (.int .i64 12)
 sqrK : w.cell? ⟨6, 0, none⟩ = some (.int .i64 80)
def GL : Nat := max (max 2 7) (max 5 6) + 1
theorem Thr.kept {w w' : World} {T : Nat → Prop} (h : Thr w) (hk : Keeps T w w') (hT : ∀ k, k < GL → ¬ T k) : Thr w' :=
 ⟨hk.cellS h.div (hT _ (by decide)), hk.cellS h.mul (hT _ (by decide)), hk.cellS h.sqr (hT _ (by decide)), hk.cellS h.sqrK (hT _ (by decide))⟩
theorem Made.early {w w1 : World} {base n q : Nat} {zv : Value} {g : Nat} {C : List Nat} (h : Made (w.drewN q) w1 base n zv g C) : Made w w1 base n zv g C := ⟨h.fit, h.blk, h.words, h.base, h.big, ⟨h.keep.os, h.keep.tape, h.keep.output, h.keep.size, h.keep.blk⟩, h.own⟩
theorem Made.weaken {w w1 : World} {base n : Nat} {zv : Value} {g : Nat} {C : List Nat} (h : Made w w1 base n (.slice none 0 0) g C) : Made w w1 base n zv g C := ⟨h.fit, h.blk, h.words, h.base, h.big, h.keep, .inr (h.own.resolve_left (by simp [Value.ownBlock]))⟩
theorem Made.apart {w w1 : World} {base n gx m c : Nat} {zv : Value} {g : Nat} {C Cx : List Nat} (h : Made w w1 base n zv g C) (hs : sameBlk zv (.slice (some ⟨gx, 0, none⟩) m c) = false) (hC : Blk w gx Cx) : gx ≠ g := by
 intro e
 subst e
 rcases h.own with h1 | h1
 ·rw [Bool.eq_false_iff] at hs
  exact hs ((sameBlk_iff _ _).2 (by rw [h1]; simp [Value.ownBlock]))
 ·have := hC.lt
  omega
theorem sameBlk_nil (u : Value) : sameBlk (.slice none 0 0) u = false := by simp [sameBlk, Value.ownBlock]
set_option maxRecDepth 100000 in
set_option maxHeartbeats 1000000 in
theorem mul_core (w : World) (base bx by_ : Nat) (zv xv yv stk : Value) (zs : List Nat) (a b : Nat) (h : NatRow w base zv zs) (hx : NatAt w bx xv a) (hy : NatAt w by_ yv b) (hB : base ≤ w.heap.size) (hg : Thr w) (hGL : GL ≤ base)
  (hl : (digs WB a).length ≤ 1000) (hl' : (digs WB b).length < 40) (hle : (digs WB b).length ≤ (digs WB a).length) :
  Calls Tryz.prog 296 #[zv, stk, xv, yv] w fun e w' => ∃ v', e = .returned v' ∧ NatOut w w' base zv v' (digs WB (a * b)) := by
 obtain ⟨xs, hxs⟩ : ∃ xs, digs WB a = xs := ⟨_, rfl⟩
 obtain ⟨ys, hys⟩ : ∃ ys, digs WB b = ys := ⟨_, rfl⟩
 have ha := val_digs WB_one a
 have hb := val_digs WB_one b
 have wx := words_digs WB_one a
 have wy := words_digs WB_one b
 unfold NatAt at hx hy
 rw [hxs] at hx hl ha wx hle
 rw [hys] at hy hl' hb wy hle
 obtain ⟨m, hm⟩ : ∃ m, xs.length = m := ⟨_, rfl⟩
 obtain ⟨n, hn⟩ : ∃ n, ys.length = n := ⟨_, rfl⟩
 have t0 : ¬ (m : Int) < n := by omega
 by_cases hn0 : n = 0
 ·obtain rfl : ys = [] := List.eq_nil_of_length_eq_zero (by omega)
  obtain ⟨p, nz, c, rfl, h'⟩ := h.empty
  obtain ⟨px, cx, rfl⟩ := hx.form
  obtain ⟨py, cy, rfl⟩ := hy.form
  rw [hm]
  have t9 : ¬ (m : Int) < 0 := by omega
  have hab : digs WB (a * b) = [] := by rw [← hb, val_nil, Nat.mul_zero, digs_zero]
  by_cases hm0 : m = 0
  ·have t1 : ((m : Int) == 0) = true := by simp; omega
   go_enter Tryz.func296, Tryz.ntmps296
   go_wp2_with fail
   go_ret
   exact ⟨_, rfl, .of_empty h'⟩
  ·have t1 : ((m : Int) == 0) = false := by simp; omega
   go_enter Tryz.func296, Tryz.ntmps296
   go_wp2_with fail
   go_ret
   exact ⟨_, rfl, .of_empty h'⟩
 ·by_cases hn1 : n = 1
  ·obtain ⟨gy, Cy, rfl, hby, hCy, hwy, hty, h0y, hly, hyC⟩ := hy.mk' (by omega)
   have hvy := hCy.row (xs := ys) hty (by omega)
   have hc := hvy 0 (by omega)
   have hy1 : ys = [ys[0]] := List.ext_getElem (by simp; omega) fun i h1 h2 => by
    obtain rfl : i = 0 := by omega
    simp
   have hbv : ys[0] = b := by
    have := congrArg (val WB) hy1
    rw [hb, val_one] at this
    exact this.symm
   rw [hbv, Nat.add_zero] at hc
   have hbl : b < WB := by rw [← hbv]; exact wy.get 0 (by omega)
   have hP := Lib.hid (mulAddWW_any w base bx b 0 zv xv zs xs h hx hB (by omega) hbl WB_pos)
   obtain ⟨px, cx, rfl⟩ := hx.form
   have t1 : ((m : Int) == 0) = false := by simp; omega
   have t9 : ¬ (m : Int) < 1 := by omega
   rw [hm] at hP ⊢
   rw [hn, hn1]
   go_enter Tryz.func296, Tryz.ntmps296
   go_wp2_with fail
   refine hP.out.mono ?_
   rintro e w1 ⟨v', rfl, ho⟩
   go_wp2_with fail
   go_ret
   refine ⟨_, rfl, ?_⟩
   rw [ha, Nat.add_zero] at ho
   exact ho
  ·obtain ⟨gx, Cx, rfl, hbx, hCx, hwx, htx, h0x, hlx, hxC⟩ := hx.mk' (by omega)
   obtain ⟨gy, Cy, rfl, hby, hCy, hwy, hty, h0y, hly, hyC⟩ := hy.mk' (by omega)
   have hvx := hCx.row (xs := xs) htx (by omega)
   have hvy := hCy.row (xs := ys) hty (by omega)
   obtain ⟨k, hk⟩ : ∃ k, m + n = k := ⟨_, rfl⟩
   have e1 : (m : Int) + n = (k : Int) := by omega
   have t1 : ((m : Int) == 0) = false := by simp; omega
   have t2 : ((n : Int) == 0) = false := by simp; omega
   have t3 : ((n : Int) == 1) = false := by simp; omega
   have t4 : (n : Int) < 40 := by omega
   have hAx := alias_any w base bx zv _ zs xs h hx
   have hAy := fun q => alias_any (w.drewN q) base by_ zv _ zs ys h hy
   rw [hm] at hAx
   rw [hn] at hAy
   rw [hm] at htx hxC ⊢
   rw [hn] at hty hyC ⊢
   by_cases hsx : sameBlk zv (.slice (some ⟨gx, 0, none⟩) m Cx.length) = true
   ·rw [hsx] at hAx
    have hAx := Lib.hid hAx
    clear hAy
    go_enter Tryz.func296, Tryz.ntmps296
    go_wp2_with fail
    refine hAx.out.mono ?_
    rintro e w0 ⟨rfl, q, rfl⟩
    have hM := Lib.hid (make_any (w.drewN q) base k (.slice none 0 0) _ (.nil _ _) (by omega) (by omega) hB)
    go_wp2_with fail
    refine hM.out.mono ?_
    rintro e w1 ⟨g, C, rfl, hmd0⟩
    have hapx : gx ≠ g := hmd0.apart (m := 0) (c := 0) (sameBlk_nil _) hCx
    have hapy : gy ≠ g := hmd0.apart (m := 0) (c := 0) (sameBlk_nil _) hCy
    have hmd : Made w w1 base k zv g C := hmd0.early.weaken
    clear hmd0
    have hf := hmd.fit
    have hP := Lib.hid (basicMul_any w1 g gx gy m n Cx.length Cy.length k C xs ys hmd.blk (hvx.keptN hmd.keep) (hvy.keptN hmd.keep) hm hn hf hk (by omega) (by omega) hapx hapy wx wy)
    have hg1 := hg.kept hmd.keep (fun _ _ h => h)
    have c7 := hg1.mul
    have c8 := hg1.sqr
    have c9 := hg1.sqrK
    go_wp2_with fail
    refine hP.out.mono ?_
    rintro e w2 ⟨z1, rfl, hv1, ho1⟩
    have hN := Lib.hid (hmd.normCall (by omega) ho1 (show val WB z1 = a * b by rw [hv1, ha, hb]))
    clear ho1
    go_wp2_with fail
    refine hN.out.mono ?_
    rintro e w5 ⟨v', rfl, hw5, ho⟩
    obtain rfl := hw5.symm
    go_wp2_with fail
    go_ret
    exact ⟨_, rfl, ho⟩
   ·replace hsx := Bool.eq_false_iff.2 hsx
    rw [hsx] at hAx
    have hAx := Lib.hid hAx
    by_cases hsy : sameBlk zv (.slice (some ⟨gy, 0, none⟩) n Cy.length) = true
    ·simp only [hsy] at hAy
     have hAy := Lib.hid hAy
     go_enter Tryz.func296, Tryz.ntmps296
     go_wp2_with fail
     refine hAx.out.mono ?_
     rintro e w0 ⟨rfl, q, rfl⟩
     go_wp2_with fail
     refine (hAy.out q).mono ?_
     rintro e w0 ⟨rfl, q1, rfl⟩
     have hM := Lib.hid (make_any (w.drewN (q + q1)) base k (.slice none 0 0) _ (.nil _ _) (by omega) (by omega) hB)
     go_wp2_with fail
     refine hM.out.mono ?_
     rintro e w1 ⟨g, C, rfl, hmd0⟩
     have hapx : gx ≠ g := hmd0.apart (m := 0) (c := 0) (sameBlk_nil _) hCx
     have hapy : gy ≠ g := hmd0.apart (m := 0) (c := 0) (sameBlk_nil _) hCy
     have hmd : Made w w1 base k zv g C := hmd0.early.weaken
     clear hmd0
     have hf := hmd.fit
     have hP := Lib.hid (basicMul_any w1 g gx gy m n Cx.length Cy.length k C xs ys hmd.blk (hvx.keptN hmd.keep) (hvy.keptN hmd.keep) hm hn hf hk (by omega) (by omega) hapx hapy wx wy)
     have hg1 := hg.kept hmd.keep (fun _ _ h => h)
     have c7 := hg1.mul
     have c8 := hg1.sqr
     have c9 := hg1.sqrK
     go_wp2_with fail
     refine hP.out.mono ?_
     rintro e w2 ⟨z1, rfl, hv1, ho1⟩
     have hN := Lib.hid (hmd.normCall (by omega) ho1 (show val WB z1 = a * b by rw [hv1, ha, hb]))
     clear ho1
     go_wp2_with fail
     refine hN.out.mono ?_
     rintro e w5 ⟨v', rfl, hw5, ho⟩
     obtain rfl := hw5.symm
     go_wp2_with fail
     go_ret
     exact ⟨_, rfl, ho⟩
    ·replace hsy := Bool.eq_false_iff.2 hsy
     simp only [hsy] at hAy
     have hAy := Lib.hid hAy
     go_enter Tryz.func296, Tryz.ntmps296
     go_wp2_with fail
     refine hAx.out.mono ?_
     rintro e w0 ⟨rfl, q, rfl⟩
     go_wp2_with fail
     refine (hAy.out q).mono ?_
     rintro e w0 ⟨rfl, q1, rfl⟩
     have hM := Lib.hid (make_any (w.drewN (q + q1)) base k zv _ (h) (by omega) (by omega) hB)
     go_wp2_with fail
     refine hM.out.mono ?_
     rintro e w1 ⟨g, C, rfl, hmd0⟩
     have hapx : gx ≠ g := hmd0.apart hsx hCx
     have hapy : gy ≠ g := hmd0.apart hsy hCy
     have hmd : Made w w1 base k zv g C := hmd0.early
     clear hmd0
     have hf := hmd.fit
     have hP := Lib.hid (basicMul_any w1 g gx gy m n Cx.length Cy.length k C xs ys hmd.blk (hvx.keptN hmd.keep) (hvy.keptN hmd.keep) hm hn hf hk (by omega) (by omega) hapx hapy wx wy)
     have hg1 := hg.kept hmd.keep (fun _ _ h => h)
     have c7 := hg1.mul
     have c8 := hg1.sqr
     have c9 := hg1.sqrK
     go_wp2_with fail
     refine hP.out.mono ?_
     rintro e w2 ⟨z1, rfl, hv1, ho1⟩
     have hN := Lib.hid (hmd.normCall (by omega) ho1 (show val WB z1 = a * b by rw [hv1, ha, hb]))
     clear ho1
     go_wp2_with fail
     refine hN.out.mono ?_
     rintro e w5 ⟨v', rfl, hw5, ho⟩
     obtain rfl := hw5.symm
     go_wp2_with fail
     go_ret
     exact ⟨_, rfl, ho⟩
theorem mul_any (w : World) (base bx by_ : Nat) (zv xv yv stk : Value) (zs : List Nat) (a b : Nat) (h : NatRow w base zv zs) (hx : NatAt w bx xv a) (hy : NatAt w by_ yv b) (hB : base ≤ w.heap.size) (hg : Thr w) (hGL : GL ≤ base)
  (hl : (digs WB a).length < 40) (hl' : (digs WB b).length < 40) :
  Calls Tryz.prog 296 #[zv, stk, xv, yv] w fun e w' => ∃ v', e = .returned v' ∧ NatOut w w' base zv v' (digs WB (a * b)) := by
 by_cases hle : (digs WB b).length ≤ (digs WB a).length
 ·exact mul_core w base bx by_ zv xv yv stk zs a b h hx hy hB hg hGL (by omega) hl' hle
 ·have hA := Lib.hid (mul_core w base by_ bx zv yv xv stk zs b a h hy hx hB hg hGL (by omega) hl (by omega))
  unfold NatAt at hx hy
  have t0 : ((digs WB a).length : Int) < (digs WB b).length := by omega
  obtain ⟨px, cx, rfl⟩ := hx.form
  obtain ⟨py, cy, rfl⟩ := hy.form
  go_enter Tryz.func296, Tryz.ntmps296
  go_wp2_with fail
  refine hA.out.mono ?_
  rintro e w1 ⟨v', rfl, ho⟩
  go_wp2_with fail
  go_ret
  refine ⟨_, rfl, ?_⟩
  rw [Nat.mul_comm]
  exact ho
end Go.Proofs.YtgamldefngehlaaGreatDoor
namespace Go.Proofs.YtgamldefngehlaaGreatDoor
open Go.RowKit
theorem two_cells {w : World} {g lo hi : Nat} {C : List Nat} (h : Blk w g C) (hC : 2 ≤ C.length) (hl : lo < WB) (hh : hi < WB) : VecOut w ((w.setCell ⟨g, 1, none⟩ (.int .u64 (hi : Int))).setCell ⟨g, 0, none⟩ (.int .u64 (lo : Int))) g 0 C [lo, hi] 2 := by
 have hb := (h.set 1 hi).set 0 lo
 have e : (C.set 1 hi).set 0 lo = over C 0 [lo, hi] := by
  match C, hC with
  | c0 :: c1 :: r, _ => simp [over]
 rw [e] at hb
 exact ⟨rfl, Words.cons hl (Words.one hh), hb, ((Keeps.refl (fun k => k = g) w).setCell ⟨g, 1, none⟩ (.int .u64 (hi : Int)) (fun _ => rfl)).setCell ⟨g, 0, none⟩ (.int .u64 (lo : Int)) (fun _ => rfl)⟩
set_option maxRecDepth 100000 in
set_option maxHeartbeats 1000000 in
theorem sqr_any (w : World) (base bx : Nat) (zv xv stk : Value) (zs : List Nat) (a : Nat) (h : NatRow w base zv zs) (hx : NatAt w bx xv a) (hB : base ≤ w.heap.size) (hg : Thr w) (hGL : GL ≤ base)
  (hl : (digs WB a).length < 12) :
  Calls Tryz.prog 295 #[zv, stk, xv] w fun e w' => ∃ v', e = .returned v' ∧ NatOut w w' base zv v' (digs WB (a * a)) := by
 obtain ⟨xs, hxs⟩ : ∃ xs, digs WB a = xs := ⟨_, rfl⟩
 have ha := val_digs WB_one a
 have wx := words_digs WB_one a
 unfold NatAt at hx
 rw [hxs] at hx hl ha wx
 obtain ⟨m, hm⟩ : ∃ m, xs.length = m := ⟨_, rfl⟩
 by_cases hn0 : m = 0
 ·obtain rfl : xs = [] := List.eq_nil_of_length_eq_zero (by omega)
  obtain ⟨p, nz, c, rfl, h'⟩ := h.empty
  obtain ⟨px, cx, rfl⟩ := hx.form
  have hab : digs WB (a * a) = [] := by rw [← ha, val_nil, Nat.mul_zero, digs_zero]
  go_enter Tryz.func295, Tryz.ntmps295
  go_wp2_with fail
  go_ret
  exact ⟨_, rfl, by first | exact .of_empty h' | (rw [hab]; exact .of_empty h')⟩
 ·obtain ⟨gx, Cx, rfl, hbx, hCx, hwx, htx, h0x, hlx, hxC⟩ := hx.mk' (by omega)
  have hvx := hCx.row (xs := xs) htx (by omega)
  by_cases hn1 : m = 1
  ·have hc := hvx 0 (by omega)
   have hx1 : xs = [xs[0]] := List.ext_getElem (by simp; omega) fun i h1 h2 => by
    obtain rfl : i = 0 := by omega
    simp
   have hbv : xs[0] = a := by
    have := congrArg (val WB) hx1
    rw [ha, val_one] at this
    exact this.symm
   rw [hbv, Nat.add_zero] at hc
   have hal : a < WB := by rw [← hbv]; exact wx.get 0 (by omega)
   have hM := Lib.hid (make_any w base 2 zv zs h (by omega) (by omega) hB)
   rw [hm, hn1]
   go_enter Tryz.func295, Tryz.ntmps295
   go_wp2_with fail
   refine hM.out.mono ?_
   rintro e w1 ⟨g, C, rfl, hmd⟩
   have hf := hmd.fit
   have hP := Lib.hid (mulWW_any a a hal hal w1)
   have hme := mac_eq a a 0
   have hl1 := macL_lt a a 0
   have hl2 := macH_lt hal hal WB_pos
   generalize macL a a 0 = lo at *
   generalize macH a a 0 = hi at *
   have ho := two_cells hmd.blk hf hl1 hl2
   have hN := Lib.hid (hmd.normCall (by omega) ho (show val WB [lo, hi] = a * a by rw [val_cons, val_one]; omega))
   have c0 := hmd.blk.cell 0 (by omega)
   have c1 := hmd.blk.cell 1 (by omega)
   have f0 := hmd.blk.frozen 0
   have f1 := hmd.blk.frozen 1
   have b1 : (1 : Int) < 2 := by omega
   clear ho hme hl1 hl2
   go_wp2_with fail
   refine hP.out.mono ?_
   rintro e w2 ⟨rfl, hw2⟩
   obtain rfl := hw2.symm
   go_wp2_with fail
   refine hN.out.mono ?_
   rintro e w5 ⟨v', rfl, hw5, ho⟩
   obtain rfl := hw5.symm
   go_wp2_with fail
   go_ret
   exact ⟨_, rfl, ho⟩
  ·obtain ⟨k, hk⟩ : ∃ k, m + m = k := ⟨_, rfl⟩
   have e1 : 2 * (m : Int) = (k : Int) := by omega
   have e1' : (2 : Int) * m = (k : Int) := by omega
   have t2 : ((m : Int) == 0) = false := by simp; omega
   have t3 : ((m : Int) == 1) = false := by simp; omega
   have t4 : (m : Int) < 12 := by omega
   have t5 : (m : Int) < 80 := by omega
   have hAx := alias_any w base bx zv _ zs xs h hx
   rw [hm] at hAx
   rw [hm] at htx hxC ⊢
   by_cases hsx : sameBlk zv (.slice (some ⟨gx, 0, none⟩) m Cx.length) = true
   ·rw [hsx] at hAx
    have hAx := Lib.hid hAx
    go_enter Tryz.func295, Tryz.ntmps295
    go_wp2_with fail
    refine hAx.out.mono ?_
    rintro e w0 ⟨rfl, q, rfl⟩
    have hM := Lib.hid (make_any (w.drewN q) base k (.slice none 0 0) _ (.nil _ _) (by omega) (by omega) hB)
    go_wp2_with fail
    refine hM.out.mono ?_
    rintro e w1 ⟨g, C, rfl, hmd0⟩
    have hapx : gx ≠ g := hmd0.apart (m := 0) (c := 0) (sameBlk_nil _) hCx
    have hapy : gx ≠ g := hmd0.apart (m := 0) (c := 0) (sameBlk_nil _) hCx
    have hmd : Made w w1 base k zv g C := hmd0.early.weaken
    clear hmd0
    have hf := hmd.fit
    have hP := Lib.hid (basicMul_any w1 g gx gx m m Cx.length Cx.length k C xs xs hmd.blk (hvx.keptN hmd.keep) (hvx.keptN hmd.keep) hm hm hf hk (by omega) (by omega) hapx hapy wx wx)
    have hg1 := hg.kept hmd.keep (fun _ _ h => h)
    have c7 := hg1.mul
    have c8 := hg1.sqr
    have c9 := hg1.sqrK
    go_wp2_with fail
    refine hP.out.mono ?_
    rintro e w2 ⟨z1, rfl, hv1, ho1⟩
    have hN := Lib.hid (hmd.normCall (by omega) ho1 (show val WB z1 = a * a by rw [hv1, ha]))
    clear ho1
    go_wp2_with fail
    refine hN.out.mono ?_
    rintro e w5 ⟨v', rfl, hw5, ho⟩
    obtain rfl := hw5.symm
    go_wp2_with fail
    go_ret
    exact ⟨_, rfl, ho⟩
   ·replace hsx := Bool.eq_false_iff.2 hsx
    rw [hsx] at hAx
    have hAx := Lib.hid hAx
    go_enter Tryz.func295, Tryz.ntmps295
    go_wp2_with fail
    refine hAx.out.mono ?_
    rintro e w0 ⟨rfl, q, rfl⟩
    have hM := Lib.hid (make_any (w.drewN q) base k zv _ (h) (by omega) (by omega) hB)
    go_wp2_with fail
    refine hM.out.mono ?_
    rintro e w1 ⟨g, C, rfl, hmd0⟩
    have hapx : gx ≠ g := hmd0.apart hsx hCx
    have hapy : gx ≠ g := hmd0.apart hsx hCx
    have hmd : Made w w1 base k zv g C := hmd0.early
    clear hmd0
    have hf := hmd.fit
    have hP := Lib.hid (basicMul_any w1 g gx gx m m Cx.length Cx.length k C xs xs hmd.blk (hvx.keptN hmd.keep) (hvx.keptN hmd.keep) hm hm hf hk (by omega) (by omega) hapx hapy wx wx)
    have hg1 := hg.kept hmd.keep (fun _ _ h => h)
    have c7 := hg1.mul
    have c8 := hg1.sqr
    have c9 := hg1.sqrK
    go_wp2_with fail
    refine hP.out.mono ?_
    rintro e w2 ⟨z1, rfl, hv1, ho1⟩
    have hN := Lib.hid (hmd.normCall (by omega) ho1 (show val WB z1 = a * a by rw [hv1, ha]))
    clear ho1
    go_wp2_with fail
    refine hN.out.mono ?_
    rintro e w5 ⟨v', rfl, hw5, ho⟩
    obtain rfl := hw5.symm
    go_wp2_with fail
    go_ret
    exact ⟨_, rfl, ho⟩
end Go.Proofs.YtgamldefngehlaaGreatDoor
namespace Go.Proofs.YtgamldefngehlaaGreatDoor
open Go.RowKit
def qdig (y : Nat) : List Nat → List Nat
 | [] => []
 | x :: xs => (val WB xs % y * WB + x) / y :: qdig y xs
theorem qdig_length (y : Nat) : ∀ xs, (qdig y xs).length = xs.length
 | [] => rfl
 | x :: xs => by simp [qdig, qdig_length y xs]
theorem qdig_val (y : Nat) (hy : 0 < y) : ∀ xs, val WB (qdig y xs) = val WB xs / y
 | [] => by simp [qdig, val_nil]
 | x :: xs => by
  rw [qdig, val_cons, qdig_val y hy xs, val_cons]
  have e : x + WB * val WB xs = y * (WB * (val WB xs / y)) + (val WB xs % y * WB + x) := by
   have h := Nat.div_add_mod (val WB xs) y
   have h2 : WB * val WB xs = WB * (y * (val WB xs / y)) + WB * (val WB xs % y) := by rw [← Nat.mul_add, h]
   rw [h2, Nat.mul_left_comm, Nat.mul_comm (val WB xs % y)]
   omega
  rw [e, Nat.mul_add_div hy]
  omega
theorem qdig_lt {y x r : Nat} (hr : r < y) (hx : x < WB) : (r * WB + x) / y < WB := by
 rw [Nat.div_lt_iff_lt_mul (by omega)]
 have := Nat.mul_le_mul_right WB hr
 rw [Nat.succ_mul] at this
 rw [Nat.mul_comm WB y]
 omega
theorem qdig_words (y : Nat) (hy : 0 < y) : ∀ xs, Words WB xs → Words WB (qdig y xs)
 | [], _ => .nil
 | x :: xs, h => Words.cons (qdig_lt (Nat.mod_lt _ hy) (h x (by simp))) (qdig_words y hy xs (fun z hz => h z (by simp [hz])))
theorem qdig_get (y : Nat) : ∀ (xs : List Nat) (i : Nat) (h : i < xs.length), (qdig y xs)[i]? = some ((val WB (xs.drop (i + 1)) % y * WB + xs[i]) / y)
 | x :: xs, 0, _ => by simp [qdig]
 | x :: xs, i + 1, h => by
  simp only [List.length_cons] at h
  simpa [qdig] using qdig_get y xs i (by omega)
theorem qdig_rem (y : Nat) (xs : List Nat) (i : Nat) (h : i < xs.length) : (val WB (xs.drop (i + 1)) % y * WB + xs[i]) % y = val WB (xs.drop i) % y := by
 rw [val_drop_cons xs i h, Nat.add_comm, Nat.add_mod, Nat.mul_mod, Nat.mod_mod, ← Nat.mul_mod, ← Nat.add_mod, Nat.mul_comm WB]
set_option maxRecDepth 100000 in
set_option maxHeartbeats 1000000 in
theorem divWVW_any (w : World) (g gx y n cx : Nat) (C xs : List Nat) (hz : Blk w g C) (hx : Vec w gx 0 xs) (hn : xs.length = n) (h0 : 0 < n) (hC : n ≤ C.length) (hl : n ≤ 10000) (wx : Words WB xs) (hy0 : y ≠ 0) (hy : y < WB) :
  Calls Tryz.prog 285 #[.slice (some ⟨g, 0, none⟩) n C.length, .int .u64 0, .slice (some ⟨gx, 0, none⟩) n cx, .int .u64 y] w fun e w' => e = .returned (.int .u64 (val WB xs % y : Nat)) ∧ VecOut w w' g 0 C (qdig y xs) n := by
 by_cases h1 : n = 1
 ·subst h1
  have hx1 : xs = [xs[0]] := List.ext_getElem (by simp; omega) fun i h1 h2 => by
   obtain rfl : i = 0 := by omega
   simp
  have hc := hx 0 (by omega)
  have wi := wx.get 0 (by omega)
  have hv : val WB xs = xs[0] := by
   have := congrArg (val WB) hx1
   rwa [val_one] at this
  have hqd : qdig y xs = [xs[0] / y] := by
   have := congrArg (qdig y) hx1
   rwa [show qdig y [xs[0]] = [xs[0] / y] by simp [qdig, val_nil]] at this
  rw [hv, hqd]
  generalize xs[0] = x at *
  rw [Nat.add_zero] at hc
  have hP := bitsDiv_any 0 x y (by omega) wi hy (.inl rfl) w
  rw [Nat.zero_mul, Nat.zero_add] at hP
  have hql : x / y < WB := Nat.lt_of_le_of_lt (Nat.div_le_self _ _) wi
  have hrl : x % y < WB := Nat.lt_of_le_of_lt (Nat.mod_le _ _) wi
  have hs := fun q => ((VecOut.start (oz := 0) hz).drewN q).snoc (C := C) (x / y) hql (by omega)
  rw [Nat.add_zero] at hs
  generalize x / y = qi at *
  generalize x % y = r at *
  have hP := Lib.hid hP
  have c0 := hz.cell 0 (by omega)
  have f0 := hz.frozen 0
  have w1 := wrapW wi
  have w2 := wrapW hy
  have w3 := wrapW hql
  have w4 := wrapW hrl
  have hs := Lib.hid hs
  clear wi hy hql hrl hv hqd
  go_enter Tryz.func285, Tryz.ntmps285
  go_wp2_with fail
  refine hP.out.mono ?_
  rintro e w1 ⟨rfl, q, rfl⟩
  go_wp2_with fail
  go_ret
  exact ⟨rfl, hs.out q⟩
 ·have t1 : ¬ (n : Int) = 1 := by omega
  have hR := Lib.hid (reciprocalWord_any y hy0 hy w)
  have hD := Lib.hid (fun x1 x0 hx1 hx0 => divWW_any x1 x0 y hy0 hy hx1 hx0)
  generalize recip (y * 2 ^ nlzN y) = rc at *
  obtain ⟨n1, hn1⟩ : ∃ n1, n - 1 = n1 := ⟨_, rfl⟩
  have e1 : (n : Int) - 1 = (n1 : Int) := by omega
  go_enter Tryz.func285, Tryz.ntmps285
  go_wp2_with fail
  refine hR.out.mono ?_
  rintro e w1 ⟨rfl, q, rfl⟩
  go_wp2_with fail
  go_loopw [8, 12] (fun r i wr => ∃ (k : Int) (j : Nat), j ≤ n ∧ i = .int .i64 k ∧ k + 1 = j ∧ r = .int .u64 (val WB (xs.drop j) % y : Nat) ∧ TopOut w wr g 0 C (qdig y xs) j) (fun _ i _ => (intOf i + 1).toNat)
  case atStart => exact ⟨n1, n, Nat.le_refl _, rfl, by omega, by rw [List.drop_of_length_le (by omega), val_nil, Nat.zero_mod]; rfl, (TopOut.start hz (by rw [qdig_length, hn])).drewN _⟩
  case round =>
   obtain ⟨k, j, hj, rfl, hk, rfl, ho⟩ := hrel
   by_cases hj0 : j = 0
   ·subst hj0
    obtain rfl : k = -1 := by omega
    rw [List.drop_zero]
    obtain ⟨rm, hrm⟩ : ∃ rm, val WB xs % y = rm := ⟨_, rfl⟩
    rw [hrm]
    go_wp2_with fail
    go_ret
    exact ⟨by rw [hrm]; rfl, ho.done (qdig_words y (by omega) xs wx) (by rw [qdig_length, hn])⟩
   ·obtain ⟨i, rfl⟩ : ∃ i, j = i + 1 := ⟨j - 1, by omega⟩
    obtain rfl : k = (i : Int) := by omega
    have hc := ho.read hz hx (.inr rfl) (by omega) i (by omega) (by omega)
    obtain ⟨u, hu⟩ := ho.there (by rw [qdig_length]; omega) (by rw [qdig_length]; omega) i (by rw [qdig_length]; omega)
    have hf := ho.blk.frozen i
    rw [Nat.zero_add] at hc hu
    have wi := wx.get i (by omega)
    have hrl := Nat.mod_lt (val WB (xs.drop (i + 1))) (show y > 0 by omega)
    have hq := qdig_get y xs i (by omega)
    have hrm := qdig_rem y xs i (by omega)
    generalize val WB (xs.drop (i + 1)) % y = r at *
    have hP := hD.out r xs[i] hrl wi
    rw [hrm] at hP
    generalize (r * WB + xs[i]) / y = qi at *
    obtain ⟨r', hr'⟩ : ∃ r', val WB (xs.drop i) % y = r' := ⟨_, rfl⟩
    rw [hr'] at hP hrm
    generalize xs[i] = xi at *
    have hP := Lib.hid hP
    have b0 : (0 : Int) ≤ i := by omega
    have b1 : (i : Int) < n := by omega
    have hi1 : (i : Int) - 1 + 1 = (i : Int) := by omega
    go_wp2_with fail
    refine (hP.out _).mono ?_
    rintro e w2 ⟨rfl, hw2⟩
    obtain rfl := hw2.symm
    have hs := ho.set hq (by rw [qdig_length]; omega)
    rw [Nat.zero_add] at hs
    have hs := Lib.hid hs
    go_wp2_with fail
    go_roundw
    case rel => exact ⟨_, i, by omega, rfl, by omega, by rw [hr'], hs.out⟩
    case measure => simp [intOf]
set_option maxRecDepth 100000 in
set_option maxHeartbeats 1000000 in
theorem divW_any (w : World) (base bx y : Nat) (zv xv : Value) (zs : List Nat) (a : Nat) (h : NatRow w base zv zs) (hx : NatAt w bx xv a) (hB : base ≤ w.heap.size) (hl : (digs WB a).length ≤ 10000) (hy0 : y ≠ 0) (hy : y < WB) :
  Calls Tryz.prog 261 #[zv, xv, .int .u64 y] w fun e w' => ∃ v', e = .returned (.tuple #[v', .int .u64 (a % y : Nat)]) ∧ NatOut w w' base zv v' (digs WB (a / y)) := by
 obtain ⟨xs, hxs⟩ : ∃ xs, digs WB a = xs := ⟨_, rfl⟩
 have ha := val_digs WB_one a
 have wx := words_digs WB_one a
 unfold NatAt at hx
 rw [hxs] at hx hl ha wx
 have t0 : ((y : Int) == 0) = false := by simp; omega
 by_cases hy1 : y = 1
 ·subst hy1
  have hS := Lib.hid (set_any w base bx zv xv zs xs h hx hB (by omega))
  obtain ⟨px, cx, rfl⟩ := hx.form
  go_enter Tryz.func261, Tryz.ntmps261
  go_wp2_with fail
  refine hS.out.mono ?_
  rintro e w1 ⟨v', rfl, ho⟩
  go_wp2_with fail
  go_ret2
  refine ⟨_, by rw [Nat.mod_one]; rfl, ?_⟩
  rw [Nat.div_one, hxs]
  exact ho
 ·have t1 : ((y : Int) == 1) = false := by simp; omega
  by_cases h0 : xs.length = 0
  ·obtain rfl : xs = [] := List.eq_nil_of_length_eq_zero h0
   rw [val_nil] at ha
   subst ha
   obtain ⟨p, n, c, rfl, h'⟩ := h.empty
   obtain ⟨px, cx, rfl⟩ := hx.form
   go_enter Tryz.func261, Tryz.ntmps261
   go_wp2_with fail
   go_ret2
   refine ⟨_, by rw [Nat.zero_mod]; rfl, ?_⟩
   rw [Nat.zero_div, digs_zero]
   exact .of_empty h'
  ·obtain ⟨gx, Cx, rfl, hbx, hCx, hwx, htx, h0x, hlx, hxC⟩ := hx.mk' (by omega)
   have hvx := hCx.row (xs := xs) htx (by omega)
   obtain ⟨m, hm⟩ : ∃ m, xs.length = m := ⟨_, rfl⟩
   have hM := Lib.hid (make_any w base m zv zs h (by omega) (by omega) hB)
   have t2 : ((m : Int) == 0) = false := by simp; omega
   rw [hm] at htx hxC ⊢
   go_enter Tryz.func261, Tryz.ntmps261
   go_wp2_with fail
   refine hM.out.mono ?_
   rintro e w1 ⟨g, C, rfl, hmd⟩
   have hf := hmd.fit
   have hP := divWVW_any w1 g gx y m Cx.length C xs hmd.blk (hvx.keptN hmd.keep) hm (by omega) hf (by omega) wx hy0 hy
   rw [ha] at hP
   have hN := fun (w2 : World) (ho1 : VecOut w1 w2 g 0 C (qdig y xs) m) => hmd.normCall (by omega) ho1 (show val WB (qdig y xs) = a / y by rw [qdig_val y (by omega), ha])
   obtain ⟨r, hr⟩ : ∃ r, a % y = r := ⟨_, rfl⟩
   rw [hr] at hP
   have hP := Lib.hid hP
   go_wp2_with fail
   refine hP.out.mono ?_
   rintro e w2 ⟨rfl, ho1⟩
   have hN := Lib.hid (hN w2 ho1)
   clear ho1
   go_wp2_with fail
   refine hN.out.mono ?_
   rintro e w5 ⟨v', rfl, hw5, ho⟩
   obtain rfl := hw5.symm
   go_wp2_with fail
   go_ret2
   exact ⟨_, by rw [hr]; rfl, ho⟩
end Go.Proofs.YtgamldefngehlaaGreatDoor
namespace Go.Proofs.YtgamldefngehlaaGreatDoor
open Go.RowKit
def VecB (w : World) (b o : Nat) (xs : List Nat) : Prop := ∀ j (h : j < xs.length), w.cell? ⟨b, o + j, none⟩ = some (.int .u8 (xs[j] : Int))
theorem or32 {a b c : Nat} (i : Nat) (hi : i ≤ 32) (ha : a < 2 ^ i) (hb : b < 2 ^ (32 - i)) (hc : a + 2 ^ i * b = c) : bits .or .u32 (a : Int) ((2 ^ i * b : Nat) : Int) = (c : Int) := by
 have h32 : (2 : Nat) ^ 32 = 2 ^ i * 2 ^ (32 - i) := by rw [← Nat.pow_add]; congr 1; omega
 have hbl : 2 ^ i * b < 2 ^ 32 := by rw [h32]; exact (Nat.mul_lt_mul_left (Nat.pow_pos (by omega))).2 hb
 have hal : a < 2 ^ 32 := Nat.lt_of_lt_of_le ha (Nat.pow_le_pow_right (by omega) hi)
 have e : a ||| 2 ^ i * b = c := by
  rw [← hc, Nat.or_comm, ← Nat.two_pow_add_eq_or_of_lt ha]
  omega
 have hx : a ||| 2 ^ i * b < 2 ^ 32 := Nat.or_lt_two_pow hal hbl
 have h1 : (BitVec.ofInt 32 (a : Int)).toNat = a := by
  rw [BitVec.ofInt_natCast, BitVec.toNat_ofNat]; exact Nat.mod_eq_of_lt hal
 have h2 : (BitVec.ofInt 32 ((2 ^ i * b : Nat) : Int)).toNat = 2 ^ i * b := by
  rw [BitVec.ofInt_natCast, BitVec.toNat_ofNat]; exact Nat.mod_eq_of_lt hbl
 show IntKind.u32.wrap ((BitVec.ofInt 32 (a : Int) ||| BitVec.ofInt 32 ((2 ^ i * b : Nat) : Int)).toNat : Int) = _
 rw [BitVec.toNat_or, h1, h2, IntKind.wrap_u32, e]
 rw [e] at hx
 omega
theorem wrap32 {a : Nat} (h : a < 4294967296) : IntKind.u32.wrap (a : Int) = (a : Int) := by rw [IntKind.wrap_u32]; omega
set_option maxRecDepth 100000 in
theorem beUint32_any (w : World) (b o n c b0 b1 b2 b3 : Nat) (hn : 4 ≤ n) (h0 : w.cell? ⟨b, o, none⟩ = some (.int .u8 (b0 : Int))) (h1 : w.cell? ⟨b, o + 1, none⟩ = some (.int .u8 (b1 : Int))) (h2 : w.cell? ⟨b, o + 2, none⟩ = some (.int .u8 (b2 : Int))) (h3 : w.cell? ⟨b, o + 3, none⟩ = some (.int .u8 (b3 : Int)))
  (l0 : b0 < 256) (l1 : b1 < 256) (l2 : b2 < 256) (l3 : b3 < 256) :
  Calls Tryz.prog 281 #[.slice (some ⟨b, o, none⟩) n c] w fun e w' => e = .returned (.int .u32 (b3 + 256 * (b2 + 256 * (b1 + 256 * b0)) : Nat)) ∧ ∃ q, w' = w.drewN q := by
 obtain ⟨s2, hs2⟩ : ∃ s, 256 * b2 = s := ⟨_, rfl⟩
 obtain ⟨s1, hs1⟩ : ∃ s, 65536 * b1 = s := ⟨_, rfl⟩
 obtain ⟨s0, hs0⟩ : ∃ s, 16777216 * b0 = s := ⟨_, rfl⟩
 obtain ⟨p2, hp2⟩ : ∃ s, b3 + 256 * b2 = s := ⟨_, rfl⟩
 obtain ⟨p1, hp1⟩ : ∃ s, p2 + 65536 * b1 = s := ⟨_, rfl⟩
 obtain ⟨p0, hp0⟩ : ∃ s, p1 + 16777216 * b0 = s := ⟨_, rfl⟩
 have o2 := or32 8 (by omega) (a := b3) (b := b2) (c := p2) (by omega) (by omega) (by omega)
 have o1 := or32 16 (by omega) (a := p2) (b := b1) (c := p1) (by omega) (by omega) (by omega)
 have o0 := or32 24 (by omega) (a := p1) (b := b0) (c := p0) (by omega) (by omega) (by omega)
 rw [show 2 ^ 8 * b2 = s2 by omega] at o2
 rw [show 2 ^ 16 * b1 = s1 by omega] at o1
 rw [show 2 ^ 24 * b0 = s0 by omega] at o0
 have hfin : b3 + 256 * (b2 + 256 * (b1 + 256 * b0)) = p0 := by omega
 have w0 := wrap32 (a := b0) (by omega)
 have w1 := wrap32 (a := b1) (by omega)
 have w2 := wrap32 (a := b2) (by omega)
 have w3 := wrap32 (a := b3) (by omega)
 have v2 : (b2 : Int) * 256 = (s2 : Int) := by omega
 have v1 : (b1 : Int) * 65536 = (s1 : Int) := by omega
 have v0 : (b0 : Int) * 16777216 = (s0 : Int) := by omega
 have w4 := wrap32 (a := s2) (by omega)
 have w5 := wrap32 (a := s1) (by omega)
 have w6 := wrap32 (a := s0) (by omega)
 rw [hfin]
 have t1 : (3 : Int) < n := by omega
 have t2 : (2 : Int) < n := by omega
 have t3 : (1 : Int) < n := by omega
 have t4 : (0 : Int) < n := by omega
 clear hs2 hs1 hs0 hp2 hp1 hp0 l0 l1 l2 l3 hfin
 go_enter Tryz.func281, Tryz.ntmps281
 go_wp2_with fail
 go_region
 go_wp2_with fail
 go_ret
 exact ⟨rfl, 1, rfl⟩
end Go.Proofs.YtgamldefngehlaaGreatDoor
namespace Go.Proofs.YtgamldefngehlaaGreatDoor
open Go.ChangeShapes Go.WideShapes Go.ChangeAt Go.RowKit
theorem laidInt {W : World} : ∀ {l : List (String × DataW Unit)} {ps : List MemPlace}, DataW.LaidVars Tryz.prog W l ps → ∀ (n : String) (z : Int) (g : Nat), (n, DataW.lit (.int .i64 z)) ∈ l →
  Tryz.prog.globalNamed n = some g → (Tryz.prog.globals[g]?).map (·.type) = some 3 → W.cell? ⟨g, 0, none⟩ = some (.int .i64 z) ∧ g < W.heap.size
 | [], _, _, _, _, _, hm, _, _ => by cases hm
 | (n', d') :: r, ps, h, n, z, g, hm, hn, ht => by
  obtain ⟨g', t, cs, fuel, p, q, h1, h2, h3, h4, h5, _⟩ := h
  rcases List.mem_cons.1 hm with e | e
  ·cases e
   obtain rfl : g' = g := Option.some.inj (h1.symm.trans hn)
   obtain rfl : 3 = t := Option.some.inj (ht.symm.trans h2)
   obtain ⟨z', hc, hx, hw⟩ := DataW.trod_int Tryz.underlying3 h4
   have hz : z' = z := by
    have := congrArg Prod.fst hx
    simpa using this.symm
   subst hz
   unfold World.var? at h3
   simp only [h1, Option.bind_some] at h3
   cases hg : W.heap[g']? with
   | none => simp [hg] at h3
   | some o =>
    rw [hg] at h3
    refine ⟨?_, (Array.getElem?_eq_some_iff.1 hg).1⟩
    cases o with
    | cells cs' t' fr =>
     simp only [Option.some.injEq] at h3
     subst h3
     unfold World.cell?
     rw [hg]
     have : cs'[0]? = some (.int .i64 z') := by
      rw [← Array.getElem?_toList, hc]; rfl
     simp [this]
    | _ => simp at h3
  ·exact laidInt h5 n z g e hn ht
theorem thrOf {W : World} {l : List (String × DataW Unit)} (h : laidMet Tryz.prog l W)
  (h1 : ("given.example/pub-anacrusis/pub/bigall.divRecursiveThreshold", DataW.lit (.int .i64 40)) ∈ l) (h2 : ("given.example/pub-anacrusis/pub/bigall.karatsubaThreshold", DataW.lit (.int .i64 40)) ∈ l)
  (h3 : ("given.example/pub-anacrusis/pub/bigall.basicSqrThreshold", DataW.lit (.int .i64 12)) ∈ l) (h4 : ("given.example/pub-anacrusis/pub/bigall.karatsubaSqrThreshold", DataW.lit (.int .i64 80)) ∈ l) : Thr W ∧ GL ≤ W.heap.size := by
 obtain ⟨ps, hv, _⟩ := h
 have a1 := laidInt hv _ _ 2 h1 (by kernel_rfl) (by kernel_rfl)
 have a2 := laidInt hv _ _ 7 h2 (by kernel_rfl) (by kernel_rfl)
 have a3 := laidInt hv _ _ 5 h3 (by kernel_rfl) (by kernel_rfl)
 have a4 := laidInt hv _ _ 6 h4 (by kernel_rfl) (by kernel_rfl)
 refine ⟨⟨a1.1, a2.1, a3.1, a4.1⟩, ?_⟩
 have b1 := a1.2
 have b2 := a2.2
 have b3 := a3.2
 have b4 := a4.2
 unfold GL
 omega
end Go.Proofs.YtgamldefngehlaaGreatDoor
