/- Parts of the walk. -/
import Derived.Test.YtgamldefngehlaaGreatDoorM08
import Derived.Test.YtgamldefngehlaaGreatDoorM18
import Derived.Test.YtgamldefngehlaaGreatDoorM21
import Derived.Test.YtgamldefngehlaaGreatDoorM23
import Derived.Deep.LoopGhost
import Derived.Deep.DeepCutAuto
import Derived.Deep.CutBlock
set_option linter.unusedVariables false
set_option linter.unusedSimpArgs false
namespace Go.Proofs.YtgamldefngehlaaGreatDoor
open Go.RowKit
theorem smear_len {t k : Nat} (h0 : t ≠ 0) (h : t < WB) : t ||| t / 2 ^ k ≠ 0 ∧ t ||| t / 2 ^ k < WB ∧ Lib.bitLen (t ||| t / 2 ^ k) = Lib.bitLen t := by
 have hle : t ≤ t ||| t / 2 ^ k := Nat.left_le_or
 have hd : t / 2 ^ k ≤ t := Nat.div_le_self _ _
 obtain ⟨a1, a2, a3, a4⟩ := bitLen_bounds h0 h
 have hlt : t ||| t / 2 ^ k < 2 ^ Lib.bitLen t := Nat.or_lt_two_pow a3 (by omega)
 have hw : t ||| t / 2 ^ k < WB := Nat.lt_of_lt_of_le hlt (by rw [WB_eq]; exact Nat.pow_le_pow_right (by omega) a4)
 have hne : t ||| t / 2 ^ k ≠ 0 := by omega
 obtain ⟨b1, b2, b3, b4⟩ := bitLen_bounds hne hw
 refine ⟨hne, hw, ?_⟩
 have c1 : Lib.bitLen (t ||| t / 2 ^ k) - 1 < Lib.bitLen t := (Nat.pow_lt_pow_iff_right (by omega : 1 < 2)).1 (Nat.lt_of_le_of_lt b2 hlt)
 have c2 : Lib.bitLen t - 1 < Lib.bitLen (t ||| t / 2 ^ k) := (Nat.pow_lt_pow_iff_right (by omega : 1 < 2)).1 (Nat.lt_of_le_of_lt a2 (Nat.lt_of_le_of_lt hle b3))
 omega
theorem row_bits {xs : List Nat} {n L : Nat} (hn : xs.length = n + 1) (hw : Words WB xs) (h0 : xs[n] ≠ 0) (hL : Lib.bitLen (xs[n]) = L) : 1 ≤ 64 * n + L ∧ 2 ^ (64 * n + L - 1) ≤ val WB xs ∧ val WB xs < 2 ^ (64 * n + L) := by
 obtain ⟨a1, a2, a3, a4⟩ := bitLen_bounds h0 (hw.get n (by omega))
 rw [hL] at a1 a2 a3 a4
 have e := val_take_succ (B := WB) xs n (by omega)
 rw [List.take_of_length_le (by omega)] at e
 have hl := val_lt (hw.take n)
 rw [List.length_take, Nat.min_eq_left (by omega)] at hl
 have hp : WB ^ n = 2 ^ (64 * n) := by rw [show WB = 2 ^ 64 by rw [WB_eq], ← Nat.pow_mul]
 rw [hp] at e hl
 refine ⟨by omega, ?_, ?_⟩
 ·rw [show 64 * n + L - 1 = 64 * n + (L - 1) by omega, Nat.pow_add]
  have := Nat.mul_le_mul_left (2 ^ (64 * n)) a2
  omega
 ·rw [Nat.pow_add]
  have := Nat.mul_le_mul_left (2 ^ (64 * n)) a3
  rw [Nat.mul_succ] at this
  omega
set_option maxRecDepth 100000 in
set_option maxHeartbeats 1000000 in
theorem bitLen_any (w : World) (bx : Nat) (xv : Value) (a : Nat) (hx : NatAt w bx xv a) (hl : (digs WB a).length ≤ 10000) :
  Calls Tryz.prog 294 #[xv] w fun e w' => ∃ L : Nat, e = .returned (.int .i64 L) ∧ (a = 0 → L = 0) ∧ (a ≠ 0 → 1 ≤ L ∧ 2 ^ (L - 1) ≤ a ∧ a < 2 ^ L) ∧ ∃ q, w' = w.drewN q := by
 obtain ⟨xs, hxs⟩ : ∃ xs, digs WB a = xs := ⟨_, rfl⟩
 have ha := val_digs WB_one a
 have wx := words_digs WB_one a
 have hlast := digs_last WB_one a
 unfold NatAt at hx
 rw [hxs] at hx hl ha wx
 by_cases h0 : xs.length = 0
 ·obtain rfl : xs = [] := List.eq_nil_of_length_eq_zero h0
  rw [val_nil] at ha
  obtain ⟨px, cx, rfl⟩ := hx.form
  go_enter Tryz.func294, Tryz.ntmps294
  go_wp2_with fail
  go_ret
  exact ⟨0, rfl, fun _ => rfl, fun h => absurd ha.symm h, 0, rfl⟩
 ·obtain ⟨gx, Cx, rfl, hbx, hCx, hwx, htx, h0x, hlx, hxC⟩ := hx.mk' (by omega)
  have hvx := hCx.row (xs := xs) htx (by omega)
  obtain ⟨n, hn⟩ : ∃ n, xs.length = n + 1 := ⟨xs.length - 1, by omega⟩
  obtain ⟨m, hm⟩ : ∃ m, xs.length = m := ⟨_, rfl⟩
  have hc := hvx n (by omega)
  rw [Nat.zero_add] at hc
  have wt := wx.get n (by omega)
  rw [hm] at htx hxC ⊢
  have e1 : (m : Int) - 1 = n := by omega
  have t1 : (0 : Int) ≤ n := by omega
  have t2 : (n : Int) < m := by omega
  have wt' := wrapW wt
  have hnz : xs[n]'(by omega) ≠ 0 := by
   have h := hlast (by rw [hxs]; exact fun e => by rw [e] at h0; simp at h0)
   simp only [hxs] at h
   rw [List.getLast_eq_getElem] at h
   simpa [hn] using h
  obtain ⟨LL, hLL⟩ : ∃ L, Lib.bitLen (xs[n]'(by omega)) = L := ⟨_, rfl⟩
  have hb := row_bits hn wx hnz hLL
  rw [ha] at hb
  obtain ⟨t, ht⟩ : ∃ t, xs[n]'(by omega) = t := ⟨_, rfl⟩
  rw [ht] at hc wt wt' hnz hLL
  have f1 := smear_len (k := 1) hnz wt
  obtain ⟨s1, hs1⟩ : ∃ s, t / 2 ^ 1 = s := ⟨_, rfl⟩
  obtain ⟨t1', ht1⟩ : ∃ q, t ||| t / 2 ^ 1 = q := ⟨_, rfl⟩
  rw [ht1, hLL] at f1
  have g1 : (t : Int) / 2 = (s1 : Int) := by omega
  have o1 := orI (c := t1') wt (show s1 < WB by rw [← hs1]; exact Nat.lt_of_le_of_lt (Nat.div_le_self _ _) wt) (by rw [← hs1]; exact ht1)
  clear wt hnz hLL
  obtain ⟨hnz, wt, hLL⟩ := f1
  have f2 := smear_len (k := 2) hnz wt
  obtain ⟨s2, hs2⟩ : ∃ s, t1' / 2 ^ 2 = s := ⟨_, rfl⟩
  obtain ⟨t2', ht2⟩ : ∃ q, t1' ||| t1' / 2 ^ 2 = q := ⟨_, rfl⟩
  rw [ht2, hLL] at f2
  have g2 : (t1' : Int) / 4 = (s2 : Int) := by omega
  have o2 := orI (c := t2') wt (show s2 < WB by rw [← hs2]; exact Nat.lt_of_le_of_lt (Nat.div_le_self _ _) wt) (by rw [← hs2]; exact ht2)
  clear wt hnz hLL
  obtain ⟨hnz, wt, hLL⟩ := f2
  have f3 := smear_len (k := 4) hnz wt
  obtain ⟨s3, hs3⟩ : ∃ s, t2' / 2 ^ 4 = s := ⟨_, rfl⟩
  obtain ⟨t3', ht3⟩ : ∃ q, t2' ||| t2' / 2 ^ 4 = q := ⟨_, rfl⟩
  rw [ht3, hLL] at f3
  have g3 : (t2' : Int) / 16 = (s3 : Int) := by omega
  have o3 := orI (c := t3') wt (show s3 < WB by rw [← hs3]; exact Nat.lt_of_le_of_lt (Nat.div_le_self _ _) wt) (by rw [← hs3]; exact ht3)
  clear wt hnz hLL
  obtain ⟨hnz, wt, hLL⟩ := f3
  have f4 := smear_len (k := 8) hnz wt
  obtain ⟨s4, hs4⟩ : ∃ s, t3' / 2 ^ 8 = s := ⟨_, rfl⟩
  obtain ⟨t4', ht4⟩ : ∃ q, t3' ||| t3' / 2 ^ 8 = q := ⟨_, rfl⟩
  rw [ht4, hLL] at f4
  have g4 : (t3' : Int) / 256 = (s4 : Int) := by omega
  have o4 := orI (c := t4') wt (show s4 < WB by rw [← hs4]; exact Nat.lt_of_le_of_lt (Nat.div_le_self _ _) wt) (by rw [← hs4]; exact ht4)
  clear wt hnz hLL
  obtain ⟨hnz, wt, hLL⟩ := f4
  have f5 := smear_len (k := 16) hnz wt
  obtain ⟨s5, hs5⟩ : ∃ s, t4' / 2 ^ 16 = s := ⟨_, rfl⟩
  obtain ⟨t5', ht5⟩ : ∃ q, t4' ||| t4' / 2 ^ 16 = q := ⟨_, rfl⟩
  rw [ht5, hLL] at f5
  have g5 : (t4' : Int) / 65536 = (s5 : Int) := by omega
  have o5 := orI (c := t5') wt (show s5 < WB by rw [← hs5]; exact Nat.lt_of_le_of_lt (Nat.div_le_self _ _) wt) (by rw [← hs5]; exact ht5)
  clear wt hnz hLL
  obtain ⟨hnz, wt, hLL⟩ := f5
  have f6 := smear_len (k := 32) hnz wt
  obtain ⟨s6a, hs6a⟩ : ∃ s, t5' / 65536 = s := ⟨_, rfl⟩
  obtain ⟨s6, hs6⟩ : ∃ s, s6a / 65536 = s := ⟨_, rfl⟩
  have hs6' : t5' / 2 ^ 32 = s6 := by rw [← hs6, ← hs6a, Nat.div_div_eq_div_mul]
  obtain ⟨t6', ht6⟩ : ∃ q, t5' ||| t5' / 2 ^ 32 = q := ⟨_, rfl⟩
  rw [ht6, hLL] at f6
  have g6 : (t5' : Int) / 65536 = (s6a : Int) := by omega
  have g6' : (s6a : Int) / 65536 = (s6 : Int) := by omega
  have o6 := orI (c := t6') wt (show s6 < WB by rw [← hs6']; exact Nat.lt_of_le_of_lt (Nat.div_le_self _ _) wt) (by rw [← hs6']; exact ht6)
  obtain ⟨hnz6, wt6, hLL6⟩ := f6
  have hP := bitsLen t6' wt6 w
  rw [hLL6] at hP
  have hP := Lib.hid hP
  have hLle : LL ≤ 64 := by have := (bitLen_bounds hnz6 wt6).2.2.2; rwa [hLL6] at this
  have hb := Lib.hid hb
  have ha0 := Lib.hid (show a ≠ 0 by
   have := hb.out.2.1
   have := Nat.pow_pos (n := 64 * n + LL - 1) (show 0 < 2 by omega)
   omega)
  obtain ⟨r, hr⟩ : ∃ r, 64 * n + LL = r := ⟨_, rfl⟩
  have r1 : (n : Int) * 64 = ((64 * n : Nat) : Int) := by omega
  have r2 : ((64 * n : Nat) : Int) + (LL : Int) = (r : Int) := by omega
  obtain ⟨n64, hn64⟩ : ∃ q, 64 * n = q := ⟨_, rfl⟩
  rw [hn64] at r1 r2
  have hr' := Lib.hid hr
  clear hr hn64 hs1 hs2 hs3 hs4 hs5 hs6 hs6a hs6' ht1 ht2 ht3 ht4 ht5 ht6 hLL hnz hnz6 wt6 wt hlast
  go_enter Tryz.func294, Tryz.ntmps294
  go_wp2_with fail
  refine hP.out.mono ?_
  rintro e w1 ⟨rfl, hw1⟩
  obtain rfl := hw1.symm
  go_wp2_with fail
  go_ret
  refine ⟨r, rfl, fun h => absurd h ha0.out, fun _ => ?_, 0, rfl⟩
  rw [← hr'.out]
  exact hb.out
end Go.Proofs.YtgamldefngehlaaGreatDoor
namespace Go.Proofs.YtgamldefngehlaaGreatDoor
open Go.RowKit
theorem WB_two (k : Nat) : WB ^ k = 2 ^ (64 * k) := by rw [Nat.pow_mul, WB_eq]
set_option maxRecDepth 100000 in
theorem intBitLen_any (w : World) (base g o n : Nat) (s : Bool) (v : Value) (h : IntAt w base g o s v n) (hl : (digs WB n).length ≤ 10000) :
  Calls Tryz.prog 273 #[.pointer (some ⟨g, o, none⟩)] w fun e w' => ∃ L : Nat, e = .returned (.int .i64 L) ∧ (n = 0 → L = 0) ∧ (n ≠ 0 → 1 ≤ L ∧ 2 ^ (L - 1) ≤ n ∧ n < 2 ^ L) ∧ ∃ q, w' = w.drewN q := by
 have hB := Lib.hid (bitLen_any w base v n h.nat hl)
 have c1 := h.abs
 clear h
 go_enter Tryz.func273, Tryz.ntmps273
 go_wp2_with fail
 refine hB.out.mono ?_
 rintro e w1 ⟨L, rfl, h0, h1, q, hq⟩
 have hf := Lib.hid (And.intro h0 (And.intro h1 hq))
 clear h0 h1 hq
 go_wp2_with fail
 go_ret
 exact ⟨L, rfl, hf.out.1, hf.out.2.1, q, hf.out.2.2⟩
set_option maxRecDepth 100000 in
set_option maxHeartbeats 1000000 in
theorem digits10_any (w : World) (base g o n : Nat) (s : Bool) (v : Value) (h : IntAt w base g o s v n) (hn : n ≠ 0) (hl : (digs WB n).length ≤ 6) (hg : Thr w) (hGL : GL ≤ w.heap.size) :
  Calls Tryz.prog 223 #[.pointer (some ⟨g, o, none⟩)] w fun e w' => ∃ D : Nat, e = .returned (.int .i64 D) ∧ 1 ≤ D ∧ D ≤ 130 ∧ 10 ^ (D - 1) ≤ n ∧ (s = false → n < 10 ^ D) ∧ Keeps (fun _ => False) w w' := by
 have hnW : n < WB ^ 6 := (digs_length_le WB_one).1 hl
 have e64 := WB_two 6
 have hn116 : n < 10 ^ 116 := Nat.lt_of_lt_of_le hnW (by rw [WB_eq]; decide +kernel)
 have hB := Lib.hid (intBitLen_any w base g o n s v h (by omega))
 have hh := Lib.hid h
 have hgl := h.known.lt
 have hgg := Lib.hid (And.intro hg hGL)
 clear h hg hGL
 go_enter Tryz.func223, Tryz.ntmps223
 go_wp2_with fail
 refine hB.out.mono ?_
 rintro e w1 ⟨L, rfl, -, h1, q, hq⟩
 obtain ⟨hL1, hL2, hL3⟩ := h1 hn
 have hL : L < 500 := by
  have : 2 ^ (L - 1) < 2 ^ (64 * 6) := by rw [← e64]; exact Nat.lt_of_le_of_lt hL2 hnW
  have := (Nat.pow_lt_pow_iff_right (by omega : 1 < 2)).1 this
  omega
 obtain ⟨b, i, hQ, hF, hi, hpow⟩ := guess_any hL (by omega)
 have hk1 : Keeps (fun _ => False) w w1 := by rw [hq]; exact (Keeps.refl _ _).drewN q
 have hdiv := fun (t : TypeId) (W : World) => run_float_arith (P := Tryz.prog) W .quo t .f64 _ _ _ hQ
 have hcv := fun (src dst : TypeId) (W : World) (hs : (Tryz.prog.underlying src).isSome = true) (hd : Tryz.prog.underlying dst = some (.int .i64)) => run_convert_float_int (P := Tryz.prog) W src dst .f64 .i64 b i hs hd hF
 have hbnd : ∀ D, 10 ^ (D - 1) ≤ n → D ≤ 116 := fun D h => by
  have := ten_lt (Nat.lt_of_le_of_lt h hn116)
  omega
 have hbnd := Lib.hid hbnd
 have hpw := Lib.hid hpow
 have hL2' := Lib.hid hL2
 have hk1' := Lib.hid hk1
 clear hpow hL2 hL3 hq hQ hF hL hk1 hn116 e64 hnW
 by_cases hi1 : i < 1
 ·have t0 : (i : Int) < 1 := by omega
  have hst := Lib.hid (show 1 ≤ 1 ∧ 10 ^ (1 - 1) ≤ n from ⟨Nat.le_refl _, by simp; omega⟩)
  clear hi1
  go_wp2_with fail
  go_loopg [4] (200 - 1) (fun k c wr => ∃ D : Nat, k = 200 - D ∧ 1 ≤ D ∧ 10 ^ (D - 1) ≤ n ∧ c = .int .i64 D ∧ Keeps (fun _ => False) w wr)
  case atStart => exact ⟨1, rfl, hst.out.1, hst.out.2, rfl, hk1'.out⟩
  case round =>
   obtain ⟨D, hk, hD1, hDp, rfl, hkr⟩ := hrel
   have hDb := hbnd.out D hDp
   have hE := Lib.hid (exp10_any wr D (by omega) ((digs_length_le WB_one).2 (Nat.lt_of_le_of_lt (Nat.pow_le_pow_right (by omega) hDb) (by rw [WB_eq]; decide +kernel))) (hgg.out.1.kept hkr (fun _ _ h => h)) (Nat.le_trans hgg.out.2 hkr.size))
   have hkrH := Lib.hid hkr
   have hDpH := Lib.hid hDp
   have hkH := Lib.hid hk
   clear hk hDp hkr
   go_wp2_with fail
   refine hE.out.mono ?_
   rintro e w6 ⟨g6, v6, rfl, hN⟩
   have hk6 := hkrH.out.trans hN.keep (fun _ _ h => h)
   have hge6 := hN.ge
   have hsz := hkrH.out.size
   have hC := Lib.hid (intCmp_any w6 base _ g o g6 0 n (10 ^ D) s false v v6 (hh.out.kept hk6 (fun h => h) (fun _ _ h => h)) hN.at_ (fun e => by injection e; omega) (by omega) (Nat.le_trans ((digs_length_le WB_one).2 (Nat.lt_of_le_of_lt (Nat.pow_le_pow_right (by omega) hDb) (show 10 ^ 116 < WB ^ 9 by rw [WB_eq]; decide +kernel))) (by decide)))
   have hk6' := Lib.hid hk6
   clear hN hk6
   by_cases hlt : cmpZ s n false (10 ^ D) < 0
   ·have hlt' := Lib.hid hlt
    generalize hcz : cmpZ s n false (10 ^ D) = cz at *
    have hczH := Lib.hid hcz
    clear hcz
    go_wp2_with fail
    refine hC.out.mono ?_
    rintro e w7 ⟨rfl, q7, hq7⟩
    have hq7 := Lib.hid hq7
    go_wp2_with fail
    go_ret
    refine ⟨D, rfl, hD1, by omega, hDpH.out, fun hs => ?_, hk6'.out.drewN q7⟩
    have hz := hczH.out
    subst hs
    have h9 := hlt'.out
    rw [← hz] at h9
    unfold cmpZ at h9
    simp only [if_true, Bool.false_eq_true, if_false] at h9
    unfold cmpI at h9
    split at h9
    ·assumption
    ·split at h9 <;> omega
   ·have hpn : 10 ^ (D + 1 - 1) ≤ n := by
     rw [Nat.add_sub_cancel]
     refine Nat.le_of_not_lt fun h9 => hlt ?_
     unfold cmpZ
     cases s
     ·simp only [if_true, Bool.false_eq_true, if_false]; rw [cmpI_lt h9]; decide
     ·simp
    have hpn := Lib.hid hpn
    generalize hcz : cmpZ s n false (10 ^ D) = cz at *
    have hcz := Lib.hid hcz
    go_wp2_with fail
    refine hC.out.mono ?_
    rintro e w7 ⟨rfl, q7, hq7⟩
    have hq7 := Lib.hid hq7
    go_wp2_with fail
    have hDk := hkH.out
    go_roundg (200 - (D + 1))
    case measure => omega
    case rel => exact ⟨D + 1, rfl, by omega, hpn.out, by go_num, hk6'.out.drewN q7⟩
 ·have t0 : ¬ (i : Int) < 1 := by omega
  have hst := Lib.hid (show 1 ≤ i ∧ 10 ^ (i - 1) ≤ n from ⟨by omega, Nat.le_trans (hpw.out.resolve_left hi1) hL2'.out⟩)
  clear hi1
  go_wp2_with fail
  go_loopg [4] (200 - i) (fun k c wr => ∃ D : Nat, k = 200 - D ∧ 1 ≤ D ∧ 10 ^ (D - 1) ≤ n ∧ c = .int .i64 D ∧ Keeps (fun _ => False) w wr)
  case atStart => exact ⟨i, rfl, hst.out.1, hst.out.2, rfl, hk1'.out⟩
  case round =>
   obtain ⟨D, hk, hD1, hDp, rfl, hkr⟩ := hrel
   have hDb := hbnd.out D hDp
   have hE := Lib.hid (exp10_any wr D (by omega) ((digs_length_le WB_one).2 (Nat.lt_of_le_of_lt (Nat.pow_le_pow_right (by omega) hDb) (by rw [WB_eq]; decide +kernel))) (hgg.out.1.kept hkr (fun _ _ h => h)) (Nat.le_trans hgg.out.2 hkr.size))
   have hkrH := Lib.hid hkr
   have hDpH := Lib.hid hDp
   have hkH := Lib.hid hk
   clear hk hDp hkr
   go_wp2_with fail
   refine hE.out.mono ?_
   rintro e w6 ⟨g6, v6, rfl, hN⟩
   have hk6 := hkrH.out.trans hN.keep (fun _ _ h => h)
   have hge6 := hN.ge
   have hsz := hkrH.out.size
   have hC := Lib.hid (intCmp_any w6 base _ g o g6 0 n (10 ^ D) s false v v6 (hh.out.kept hk6 (fun h => h) (fun _ _ h => h)) hN.at_ (fun e => by injection e; omega) (by omega) (Nat.le_trans ((digs_length_le WB_one).2 (Nat.lt_of_le_of_lt (Nat.pow_le_pow_right (by omega) hDb) (show 10 ^ 116 < WB ^ 9 by rw [WB_eq]; decide +kernel))) (by decide)))
   have hk6' := Lib.hid hk6
   clear hN hk6
   by_cases hlt : cmpZ s n false (10 ^ D) < 0
   ·have hlt' := Lib.hid hlt
    generalize hcz : cmpZ s n false (10 ^ D) = cz at *
    have hczH := Lib.hid hcz
    clear hcz
    go_wp2_with fail
    refine hC.out.mono ?_
    rintro e w7 ⟨rfl, q7, hq7⟩
    have hq7 := Lib.hid hq7
    go_wp2_with fail
    go_ret
    refine ⟨D, rfl, hD1, by omega, hDpH.out, fun hs => ?_, hk6'.out.drewN q7⟩
    have hz := hczH.out
    subst hs
    have h9 := hlt'.out
    rw [← hz] at h9
    unfold cmpZ at h9
    simp only [if_true, Bool.false_eq_true, if_false] at h9
    unfold cmpI at h9
    split at h9
    ·assumption
    ·split at h9 <;> omega
   ·have hpn : 10 ^ (D + 1 - 1) ≤ n := by
     rw [Nat.add_sub_cancel]
     refine Nat.le_of_not_lt fun h9 => hlt ?_
     unfold cmpZ
     cases s
     ·simp only [if_true, Bool.false_eq_true, if_false]; rw [cmpI_lt h9]; decide
     ·simp
    have hpn := Lib.hid hpn
    generalize hcz : cmpZ s n false (10 ^ D) = cz at *
    have hcz := Lib.hid hcz
    go_wp2_with fail
    refine hC.out.mono ?_
    rintro e w7 ⟨rfl, q7, hq7⟩
    have hq7 := Lib.hid hq7
    go_wp2_with fail
    have hDk := hkH.out
    go_roundg (200 - (D + 1))
    case measure => omega
    case rel => exact ⟨D + 1, rfl, by omega, hpn.out, by go_num, hk6'.out.drewN q7⟩
end Go.Proofs.YtgamldefngehlaaGreatDoor
namespace Go.Proofs.YtgamldefngehlaaGreatDoor
open Go.RowKit
theorem newRat (w : World) (base : Nat) : IntAt (w.alloc (.cells #[.bool false, .slice none 0 0, .bool false, .slice none 0 0] 141)) base w.heap.size 0 false (.slice none 0 0) 0 ∧ IntAt (w.alloc (.cells #[.bool false, .slice none 0 0, .bool false, .slice none 0 0] 141)) base w.heap.size 2 false (.slice none 0 0) 0 := by
 have hb := blk_new w (.cells #[.bool false, .slice none 0 0, .bool false, .slice none 0 0] 141 (0, 0))
 exact ⟨⟨⟨_, _, hb⟩, by rw [cellOf hb]; rfl, by rw [cellOf hb]; rfl, by unfold NatAt; rw [digs_zero]; exact .nil _ _⟩, ⟨⟨_, _, hb⟩, by rw [cellOf hb]; rfl, by rw [cellOf hb]; rfl, by unfold NatAt; rw [digs_zero]; exact .nil _ _⟩⟩
structure CvIn (n d w k1 k2 : Nat) : Prop where
 eq : n * 10 ^ k1 = d * w * 10 ^ k2
 hw : w < 10 ^ 34
 h1 : k1 ≤ 60
 h2 : k2 ≤ 60
 n0 : n ≠ 0
 d0 : d ≠ 0
 ln : (digs WB n).length ≤ 5
 ld : (digs WB d).length ≤ 4
 few : d = 1 ∨ (digs WB n).length ≤ 3
set_option maxRecDepth 100000 in
set_option maxHeartbeats 4000000 in
theorem ratToDec_any (w : World) (br gr gm n d wm k1 k2 : Nat) (s : Bool) (v0 u0 : Value) (hr : RatAt w br gr s false v0 u0 n d) (hm : IntAt w w.heap.size gm 0 false (.slice none 0 0) 0) (hI : CvIn n d wm k1 k2) (hg : Thr w) (hGL : GL ≤ w.heap.size) (hmG : GL ≤ gm) :
  Calls Tryz.prog 158 #[.pointer (some ⟨gr, 0, none⟩), .pointer (some ⟨gm, 0, none⟩), .int .i64 34, .int .i64 (-6176), .int .i64 6111] w fun e w' => ∃ (E : Int) (M j t : Nat) (v : Value), e = .returned (.tuple #[.int .i64 E, .int .u8 0]) ∧ IntAt w' w.heap.size gm 0 s v M ∧ Keeps (fun k => k = gm) w w' ∧ M ≠ 0 ∧ M % 10 ≠ 0 ∧ M * 10 ^ j = wm * 10 ^ t ∧ E = (k2 : Int) - k1 - t + j := by
 have hN := Lib.hid (ratNum_any w gr)
 have hZ := natZero_any
 have hgl := hr.num.known.lt
 have hml := hm.known.lt
 have hIH := Lib.hid hI
 have hrH := Lib.hid hr
 have hmH := Lib.hid hm
 have hggH := Lib.hid (And.intro hg (And.intro hGL hmG))
 have hn0 := hI.n0
 have ln5 := hI.ln
 have ld4 := hI.ld
 have hcz : ¬ cmpZ s n false 0 = 0 := by
  unfold cmpZ
  cases s
  ·simp only [if_true, Bool.false_eq_true, if_false]; rw [cmpI_gt (by omega)]; decide
  ·simp
 clear hr hm hI hg hGL hmG
 go_enter Tryz.func158, Tryz.ntmps158
 go_wp2_with fail
 refine hN.out.mono ?_
 rintro e w1 ⟨rfl, hw1⟩
 obtain rfl := hw1.symm
 go_wp2_with fail
 refine (hZ w).mono ?_
 rintro e w1 ⟨gz, zv, rfl, hz⟩
 have hk1 := hz.keep
 have hgzl := hz.ge
 have hC := Lib.hid (intCmp_any w1 br _ gr 0 gz 0 n 0 s false v0 zv (hrH.out.num.kept hk1 (fun h => h) (fun _ _ h => h)) hz.at_ (fun e => by injection e; omega) (by omega) (by rw [digs_zero]; simp))
 have hk1 := Lib.hid hk1
 generalize cmpZ s n false 0 = cz at *
 clear hz
 go_wp2_with fail
 refine hC.out.mono ?_
 rintro e w2 ⟨rfl, q2, hq2⟩
 have hk2 : Keeps (fun _ => False) w w2 := by rw [hq2]; exact hk1.out.drewN q2
 have hs2 := hk2.size
 have hk2H := Lib.hid hk2
 have hnw := newRat w2 w.heap.size
 have kal := hk2.alloc (.cells #[.bool false, .slice none 0 0, .bool false, .slice none 0 0] 141)
 have hS := Lib.hid (ratSet_any _ w.heap.size br w2.heap.size gr n d s v0 u0 hnw.1 hnw.2 (hrH.out.kept kal (fun h => h) (fun _ _ h => h) (fun _ _ h => h)) (by omega) hIH.out.d0 kal.size (by omega) (by omega))
 have kal := Lib.hid kal
 clear hq2 hC hnw hk2
 go_wp2_with fail
 refine hS.out.mono ?_
 rintro e w3 ⟨v, u, rfl, ha, hb, hab, hk3⟩
 have hmA := hmH.out.kept kal.out (fun h => h) (fun _ _ h => h)
 have hk3w : Keeps (fun _ => False) w w3 := (kal.out.mono (fun _ _ h => h)).trans hk3 (fun k hk e => by omega)
 have hCv : Cv w w3 w2.heap.size gm s false false v u (.slice none 0 0) n d 0 := ⟨ha, hb, hmH.out.kept hk3w (fun h => h) (fun _ _ h => h), by omega, hs2, hab, fun k hk e => by simp [Value.ownBlock] at e, fun k hk e => by simp [Value.ownBlock] at e, hk3w.mono (fun _ _ h => h.elim)⟩
 have hCvH := Lib.hid hCv
 have hN2 := Lib.hid (ratNum_any w3 w2.heap.size)
 have hD2 := Lib.hid (ratDenom_any w3 w.heap.size w2.heap.size n d s false v u ⟨ha, hb, hab⟩ hIH.out.d0)
 have hT2 := Lib.hid (isInt_any w3 w.heap.size w2.heap.size d false u hb hIH.out.d0 (by omega))
 obtain ⟨gc, hgc⟩ : ∃ x, w2.heap.size = x := ⟨_, rfl⟩
 rw [hgc] at hCvH hN2 hD2 hT2 hs2
 clear ha hb hab hk3 hk3w hmA hCv
 rw [hgc]
 go_wp2_with fail
 refine hN2.out.mono ?_
 rintro e w4 ⟨rfl, hw4⟩
 obtain rfl := hw4.symm
 go_wp2_with fail
 refine hD2.out.mono ?_
 rintro e w4 ⟨rfl, hw4⟩
 obtain rfl := hw4.symm
 go_wp2_with fail
 refine hT2.out.mono ?_
 rintro e w4 ⟨rfl, hk4⟩
 have hCv4 := Lib.hid (hCvH.out.fresh hk4)
 clear hk4 hgc hN2 hD2 hT2 hS hCvH hN hZ
 obtain ⟨b1, hb1⟩ : ∃ b, decide (d = 1) = b := ⟨_, rfl⟩
 rw [hb1]
 have hb1 := Lib.hid hb1
 have hThr := Lib.hid (fun (W : World) (hk : Keeps (fun k => k = gm) w W) => (show Thr W ∧ GL ≤ W.heap.size from ⟨hggH.out.1.kept hk (fun k hk e => by have := hggH.out.2.2; omega), Nat.le_trans hggH.out.2.1 hk.size⟩))
 go_upto_if 35 with fail
 go_cut [16, 17] (fun X S wx => ∃ (E0 sh : Int) (al be t n1 d1 : Nat) (v u : Value), X = .int .i64 E0 ∧ S = .int .i64 sh ∧ Cv w wx gc gm s false false v u (.slice none 0 0) n1 d1 0 ∧ n1 ≠ 0 ∧ d1 ≠ 0 ∧ CvUp E0 sh n1 d1 wm k1 k2 al be t)
 case first =>
  have hA := hCv4.out.a
  have hDa := Lib.hid (digits10_any w4 w.heap.size gc 0 n s v hA hn0 (by omega) (hThr.out _ hCv4.out.keep).1 (hThr.out _ hCv4.out.keep).2)
  cases b1
  ·have hd1 : ¬ d = 1 := by simpa using hb1.out
   have hln3 := hIH.out.few.resolve_left hd1
   clear hA
   go_wp2_with fail
   refine hDa.out.mono ?_
   rintro e w5 ⟨Da, rfl, hDa1, hDa2, hDap, -, hk5⟩
   have hCv5 := hCv4.out.fresh hk5
   have hDb := Lib.hid (digits10_any w5 w.heap.size gc 2 d false u hCv5.b hIH.out.d0 (by omega) (hThr.out _ hCv5.keep).1 (hThr.out _ hCv5.keep).2)
   have hCv5 := Lib.hid hCv5
   have hDaH := Lib.hid (And.intro hDa1 (And.intro hDa2 hDap))
   clear hk5 hDap
   go_wp2_with fail
   refine hDb.out.mono ?_
   rintro e w6 ⟨Db, rfl, hDb1, hDb2, hDbp, hDbl, hk6⟩
   have hCv6 := Lib.hid (hCv5.out.fresh hk6)
   have hDbH := Lib.hid (And.intro hDbp (by first | exact hDbl rfl | exact hDbl trivial))
   clear hk6 hDbp hDbl
   obtain ⟨sh, hsh⟩ : ∃ z : Int, (Da : Int) - Db = z := ⟨_, rfl⟩
   have hsb : -130 ≤ sh ∧ sh ≤ 130 := by omega
   have wsh : IntKind.i64.wrap sh = sh := by rw [IntKind.wrap_i64]; omega
   have hshH := Lib.hid hsh
   go_upto_block 0 with fail
   go_cut [] (fun wx => ∃ (x y : Nat) (v u : Value), Cv w wx gc gm s false false v u (.slice none 0 0) (n * 10 ^ x) (d * 10 ^ y) 0 ∧ Da + x = Db + y ∧ (x = 0 ∨ y = 0))
   case first =>
    by_cases h1 : Da < Db
    ·have t0 : sh < 0 := by omega
     obtain ⟨x, hx⟩ : ∃ x, Db - Da = x := ⟨_, rfl⟩
     have e1 : sh * -1 = (x : Int) := by omega
     have hxb : x ≤ 130 := by omega
     have hxe := Lib.hid (show Da + x = Db + 0 by omega)
     clear hx hsh
     have hE := Lib.hid (exp10_any w6 x (by omega) (len_ten (by omega)) (hThr.out _ hCv6.out.keep).1 (hThr.out _ hCv6.out.keep).2)
     go_wp2_with fail
     refine hE.out.mono ?_
     rintro e w7 ⟨g7, v7, rfl, hN7⟩
     have hCv7 := hCv6.out.fresh hN7.keep
     have hge7 := hN7.ge
     have hsz6 := hCv6.out.keep.size
     have hgcl := hCv6.out.a.known.lt
     have hMu := Lib.hid (intMul_any w7 w.heap.size w.heap.size w6.heap.size gc 0 gc 0 g7 0 n n (10 ^ x) s s false v v v7 hCv7.a hCv7.a hN7.at_ (fun e => by injection e; omega) hCv7.keep.size (hThr.out _ hCv7.keep).1 hggH.out.2.1 (by omega) (by have := len_ten (k := x) (by omega); omega))
     have hCv7 := Lib.hid hCv7
     clear hN7
     go_wp2_with fail
     refine hMu.out.mono ?_
     rintro e w8 ⟨v8, rfl, ho8⟩
     have hCv8 := hCv7.out.putA ho8
     have hnz : n * 10 ^ x ≠ 0 := Nat.mul_ne_zero hn0 (Nat.pos_iff_ne_zero.1 (ten_pos x))
     rw [show (decide (n * 10 ^ x ≠ 0) && (s != false)) = s by simp [hnz]] at hCv8
     have hCv8 := Lib.hid hCv8
     clear ho8 hnz
     go_wp2_with fail
     go_meet
     exact ⟨x, 0, v8, u, by rw [Nat.pow_zero, Nat.mul_one]; exact hCv8.out, hxe.out, .inr rfl⟩
    ·by_cases h2 : Db < Da
     ·have t0 : ¬ sh < 0 := by omega
      have t1 : (0 : Int) < sh := by omega
      obtain ⟨y, hy⟩ : ∃ y, Da - Db = y := ⟨_, rfl⟩
      obtain rfl : sh = (y : Int) := by omega
      have hyb : y ≤ 130 := by omega
      have hye := Lib.hid (show Da + 0 = Db + y by omega)
      clear hy hsh
      have hE := Lib.hid (exp10_any w6 y (by omega) (len_ten (by omega)) (hThr.out _ hCv6.out.keep).1 (hThr.out _ hCv6.out.keep).2)
      go_wp2_with fail
      refine hE.out.mono ?_
      rintro e w7 ⟨g7, v7, rfl, hN7⟩
      have hCv7 := hCv6.out.fresh hN7.keep
      have hge7 := hN7.ge
      have hsz6 := hCv6.out.keep.size
      have hgcl := hCv6.out.a.known.lt
      have hMu := Lib.hid (intMul_any w7 w.heap.size w.heap.size w6.heap.size gc 2 gc 2 g7 0 d d (10 ^ y) false false false u u v7 hCv7.b hCv7.b hN7.at_ (fun e => by injection e; omega) hCv7.keep.size (hThr.out _ hCv7.keep).1 hggH.out.2.1 (by omega) (by have := len_ten (k := y) (by omega); omega))
      have hCv7 := Lib.hid hCv7
      clear hN7
      go_wp2_with fail
      refine hMu.out.mono ?_
      rintro e w8 ⟨v8, rfl, ho8⟩
      have hCv8 := hCv7.out.putB ho8
      have hnz : d * 10 ^ y ≠ 0 := Nat.mul_ne_zero hIH.out.d0 (Nat.pos_iff_ne_zero.1 (ten_pos y))
      rw [show (decide (d * 10 ^ y ≠ 0) && (false != false)) = false by simp [hnz]] at hCv8
      have hCv8 := Lib.hid hCv8
      clear ho8 hnz
      go_wp2_with fail
      go_meet
      exact ⟨0, y, v, v8, by rw [Nat.pow_zero, Nat.mul_one]; exact hCv8.out, hye.out, .inl rfl⟩
     ·obtain rfl : sh = 0 := by omega
      have t0 : ¬ (0 : Int) < 0 := by omega
      have hee := Lib.hid (show Da = Db by omega)
      clear hsh
      go_wp2_with fail
      go_meet
      exact ⟨0, 0, v, u, by rw [Nat.pow_zero, Nat.mul_one, Nat.mul_one]; exact hCv6.out, by rw [hee.out], .inl rfl⟩
   case rest =>
    obtain ⟨x, y, v9, u9, hCv9, hxy, h0⟩ := hcut
    have hdp := CvUp.deep ld4 hDbH.out.1
    have hln9 : (digs WB (n * 10 ^ x)).length ≤ 14 := len_prod (i := 5) (j := 9) ln5 (len_ten (by rcases h0 with e | e <;> omega))
    have hld9 : (digs WB (d * 10 ^ y)).length ≤ 13 := len_prod (i := 4) (j := 9) ld4 (len_ten (by rcases h0 with e | e <;> omega))
    have hCm := Lib.hid (intCmp_any wc w.heap.size w.heap.size gc 0 gc 2 (n * 10 ^ x) (d * 10 ^ y) s false v9 u9 hCv9.a hCv9.b (by simp) (by omega) (by omega))
    have hFr := Lib.hid (fun lt hge => CvUp.frac (n := n) (d := d) (w := wm) (k1 := k1) (k2 := k2) (x := x) (y := y) (Da := Da) (Db := Db) lt hIH.out.eq (Nat.pos_of_ne_zero hIH.out.d0) hIH.out.hw hIH.out.h1 hIH.out.h2 hDaH.out.1 hDaH.out.2.1 hDaH.out.2.2 hDbH.out.2 hDbH.out.1 hxy h0 hln3 ld4 hge)
    have hshe := Lib.hid (show sh = (y : Int) - x by have := hshH.out; omega)
    have hCv9 := Lib.hid hCv9
    have hnz : n * 10 ^ x ≠ 0 := Nat.mul_ne_zero hn0 (Nat.pos_iff_ne_zero.1 (ten_pos x))
    have hnz := Lib.hid hnz
    have hdz := Lib.hid (show d * 10 ^ y ≠ 0 from Nat.mul_ne_zero hIH.out.d0 (Nat.pos_iff_ne_zero.1 (ten_pos y)))
    clear hxy h0 hdp hln9 hld9 hsh
    by_cases hlt : cmpZ s (n * 10 ^ x) false (d * 10 ^ y) = -1
    ·obtain ⟨E0, hE0⟩ : ∃ z : Int, sh - 1 = z := ⟨_, rfl⟩
     have hEb : -140 ≤ E0 ∧ E0 ≤ 140 := by omega
     have wE : IntKind.i64.wrap E0 = E0 := by rw [IntKind.wrap_i64]; omega
     rw [hlt] at hCm
     clear hlt
     go_wp2_with fail
     refine hCm.out.mono ?_
     rintro e w10 ⟨rfl, q10, hq10⟩
     have hCv10 := Lib.hid (show Cv w w10 gc gm s false false v9 u9 (.slice none 0 0) (n * 10 ^ x) (d * 10 ^ y) 0 from hCv9.out.fresh (by rw [hq10]; exact (Keeps.refl _ _).drewN q10))
     clear hq10
     go_wp2_with fail
     go_meet
     obtain ⟨t, hU⟩ := hFr.out true (by simp)
     exact ⟨E0, sh, _, _, t, _, _, v9, u9, by first | rfl | rw [hE0], rfl, hCv10.out, hnz.out, hdz.out, by have h := hU; rw [← hshe.out] at h; simp only [if_true] at h; rw [hE0] at h; exact h⟩
    ·have hge : s = false ∧ d * 10 ^ y ≤ n * 10 ^ x := by
      unfold cmpZ at hlt
      cases s
      ·refine ⟨rfl, Nat.le_of_not_lt fun h9 => hlt ?_⟩
       simp only [if_true, Bool.false_eq_true, if_false]
       exact cmpI_lt h9
      ·simp at hlt
     have hge := Lib.hid hge
     have t0 : ((cmpZ s (n * 10 ^ x) false (d * 10 ^ y)) == -1) = false := by simp [hlt]
     generalize cmpZ s (n * 10 ^ x) false (d * 10 ^ y) = cz2 at *
     go_wp2_with fail
     refine hCm.out.mono ?_
     rintro e w10 ⟨rfl, q10, hq10⟩
     have hCv10 := Lib.hid (show Cv w w10 gc gm s false false v9 u9 (.slice none 0 0) (n * 10 ^ x) (d * 10 ^ y) 0 from hCv9.out.fresh (by rw [hq10]; exact (Keeps.refl _ _).drewN q10))
     clear hq10
     go_wp2_with fail
     go_meet
     obtain ⟨t, hU⟩ := hFr.out false (fun _ => hge.out.2)
     exact ⟨sh, sh, _, _, t, _, _, v9, u9, rfl, rfl, hCv10.out, hnz.out, hdz.out, by have h := hU; rw [← hshe.out] at h; simp only [Bool.false_eq_true, if_false, Int.sub_zero] at h; exact h⟩
  ·have hd1 : d = 1 := by simpa using hb1.out
   clear hA
   go_wp2_with fail
   refine hDa.out.mono ?_
   rintro e w5 ⟨D, rfl, hDa1, hDa2, hDap, -, hk5⟩
   have hCv5 := Lib.hid (hCv4.out.fresh hk5)
   have hDaH := Lib.hid hDap
   obtain ⟨E0, hE0⟩ : ∃ z : Int, (D : Int) - 1 = z := ⟨_, rfl⟩
   have hEb : 0 ≤ E0 ∧ E0 ≤ 130 := by omega
   clear hk5 hDap
   go_wp2_with fail
   go_meet
   obtain ⟨al, be, t, hU⟩ := CvUp.whole (n := n) (w := wm) (k1 := k1) (k2 := k2) (D := D) (by have := hIH.out.eq; rwa [hd1] at this) hIH.out.hw hIH.out.h1 hIH.out.h2 hDa1 hDa2 hDaH.out ln5
   rw [hE0] at hU
   exact ⟨E0, 0, al, be, t, n, d, v, u, by first | rfl | (rw [hE0]), rfl, hCv5.out, hn0, hIH.out.d0, by rw [hd1]; exact hU⟩
 case rest =>
  obtain ⟨E0, sh, al, be, t, n1, d1, v, u, rfl, rfl, hCv, hn1, hd1, hU⟩ := hcut
  have hUH := Lib.hid hU
  have hCvH := Lib.hid hCv
  have hgcl := hCv.a.known.lt
  obtain ⟨E1, hE1⟩ : ∃ z : Int, E0 - 34 = z := ⟨_, rfl⟩
  obtain ⟨E, hE⟩ : ∃ z : Int, E1 + 1 = z := ⟨_, rfl⟩
  obtain ⟨S2, hS2⟩ : ∃ z : Int, E - sh = z := ⟨_, rfl⟩
  have x1 := hU.e1
  have x2 := hU.e2
  have x3 := hU.s1
  have x4 := hU.s2
  have x5 := hU.ala
  have x6 := hU.bea
  have x7 := hU.gap
  have x8 := hU.one
  have x9 := hU.up
  have x10 := hU.same
  have y1 : -240 ≤ E1 ∧ E1 ≤ 240 := by omega
  have y2 : -240 ≤ E ∧ E ≤ 240 := by omega
  have y3 : S2 = (be : Int) - al := by omega
  have y4 : -100 ≤ S2 ∧ S2 ≤ 100 := by omega
  replace y3 := Lib.hid y3
  replace x8 := Lib.hid x8
  have y6 : (0 < be → 0 < E) ∧ (al = 0 → be = 0 → E ≤ 0) := ⟨fun h => by have := x9 h; omega, fun h h' => by have := x10 h h'; omega⟩
  replace y6 := Lib.hid y6
  have hEe := Lib.hid (show E = E0 - 33 by omega)
  have t1 : ¬ E0 < -6176 := by omega
  have t2 : -6176 ≤ E := by omega
  have t2' : ¬ E < -6176 := by omega
  have t3 : ¬ 6111 < E := by omega
  have hmx : max E (-6176) = E := by omega
  clear hCv hU x1 x2 x3 x4 x7 x9 x10
  go_upto_block 2 with fail
  have hIn0 : n1 * 10 ^ al ≠ 0 := Nat.mul_ne_zero hn1 (Nat.pos_iff_ne_zero.1 (ten_pos al))
  have hId0 : d1 * 10 ^ be ≠ 0 := Nat.mul_ne_zero hd1 (Nat.pos_iff_ne_zero.1 (ten_pos be))
  replace hIn0 := Lib.hid hIn0
  replace hId0 := Lib.hid hId0
  go_cut [] (fun wx => ∃ (v u : Value), Cv w wx gc gm s false false v u (.slice none 0 0) (n1 * 10 ^ al) (d1 * 10 ^ be) 0)
  case first =>
   by_cases h1 : 0 < al
   ·have hbe0 : be = 0 := by have := x8.out; omega
    have t0 : S2 < 0 := by have := y3.out; omega
    have e1 : S2 * -1 = (al : Int) := by have := y3.out; omega
    replace hbe0 := Lib.hid hbe0
    clear hS2
    have hE := Lib.hid (exp10_any wc al (by omega) (len_ten (by omega)) (hThr.out _ hCvH.out.keep).1 (hThr.out _ hCvH.out.keep).2)
    go_wp2_with fail
    refine hE.out.mono ?_
    rintro e w7 ⟨g7, v7, rfl, hN7⟩
    have hCv7 := hCvH.out.fresh hN7.keep
    have hge7 := hN7.ge
    have hMu := Lib.hid (intMul_any w7 w.heap.size w.heap.size wc.heap.size gc 0 gc 0 g7 0 n1 n1 (10 ^ al) s s false v v v7 hCv7.a hCv7.a hN7.at_ (fun e => by injection e; omega) hCv7.keep.size (hThr.out _ hCv7.keep).1 hggH.out.2.1 (Nat.lt_of_le_of_lt hUH.out.ln1 (by decide)) (by have := len_ten (k := al) (by omega); omega))
    have hCv7 := Lib.hid hCv7
    clear hN7
    go_wp2_with fail
    refine hMu.out.mono ?_
    rintro e w8 ⟨v8, rfl, ho8⟩
    have hCv8 := hCv7.out.putA ho8
    rw [show (decide (n1 * 10 ^ al ≠ 0) && (s != false)) = s by simp [hIn0.out]] at hCv8
    have hCv8 := Lib.hid hCv8
    clear ho8
    go_wp2_with fail
    go_meet
    exact ⟨v8, u, by rw [hbe0.out, Nat.pow_zero, Nat.mul_one]; exact hCv8.out⟩
   ·have hal0 : al = 0 := by omega
    have t0 : ¬ S2 < 0 := by have := y3.out; omega
    by_cases h2 : 0 < be
    ·have t4 : (0 : Int) < E := by have := y6.out.1 h2; omega
     have e2 : S2 = (be : Int) := by have := y3.out; omega
     subst e2
     replace hal0 := Lib.hid hal0
     clear hS2
     have hE := Lib.hid (exp10_any wc be (by omega) (len_ten (by omega)) (hThr.out _ hCvH.out.keep).1 (hThr.out _ hCvH.out.keep).2)
     go_wp2_with fail
     refine hE.out.mono ?_
     rintro e w7 ⟨g7, v7, rfl, hN7⟩
     have hCv7 := hCvH.out.fresh hN7.keep
     have hge7 := hN7.ge
     have hMu := Lib.hid (intMul_any w7 w.heap.size w.heap.size wc.heap.size gc 2 gc 2 g7 0 d1 d1 (10 ^ be) false false false u u v7 hCv7.b hCv7.b hN7.at_ (fun e => by injection e; omega) hCv7.keep.size (hThr.out _ hCv7.keep).1 hggH.out.2.1 (Nat.lt_of_le_of_lt hUH.out.ld1 (by decide)) (by have := len_ten (k := be) (by omega); omega))
     have hCv7 := Lib.hid hCv7
     clear hN7
     go_wp2_with fail
     refine hMu.out.mono ?_
     rintro e w8 ⟨v8, rfl, ho8⟩
     have hCv8 := hCv7.out.putB ho8
     rw [show (decide (d1 * 10 ^ be ≠ 0) && (false != false)) = false by simp [hId0.out]] at hCv8
     have hCv8 := Lib.hid hCv8
     clear ho8
     go_wp2_with fail
     go_meet
     exact ⟨v, v8, by rw [hal0.out, Nat.pow_zero, Nat.mul_one]; exact hCv8.out⟩
    ·have hbe0 : be = 0 := by omega
     have t4 : ¬ (0 : Int) < E := by have := y6.out.2 hal0 hbe0; omega
     go_wp2_with fail
     go_meet
     exact ⟨v, u, by rw [hal0, hbe0, Nat.pow_zero, Nat.mul_one, Nat.mul_one]; exact hCvH.out⟩
  case rest =>
   obtain ⟨v, u, hCv⟩ := hcut
   obtain ⟨P, hP⟩ : ∃ x, n1 * 10 ^ al = x := ⟨_, rfl⟩
   obtain ⟨Q, hQ⟩ : ∃ x, d1 * 10 ^ be = x := ⟨_, rfl⟩
   obtain ⟨M0, hM0⟩ : ∃ x, wm * 10 ^ t = x := ⟨_, rfl⟩
   have hPQ := hUH.out.eq
   have hlP := hUH.out.ln
   have hlQ := hUH.out.ld
   have hp0 := hIn0.out
   have hq0 := hId0.out
   rw [hP] at hPQ hlP hp0 hCv
   rw [hQ] at hPQ hlQ hq0 hCv
   rw [hM0] at hPQ
   have hdv : P / Q = M0 := by rw [hPQ]; exact Nat.mul_div_cancel_left _ (Nat.pos_of_ne_zero hq0)
   have hmd : P % Q = 0 := by rw [hPQ]; exact Nat.mul_mod_right _ _
   have hM00 : M0 ≠ 0 := fun h => hp0 (by rw [hPQ, h, Nat.mul_zero])
   have hlM : (digs WB M0).length ≤ 11 := Nat.le_trans (digs_length_mono WB_one (by rw [hPQ]; exact Nat.le_mul_of_pos_left _ (Nat.pos_of_ne_zero hq0))) hlP
   have hQR := intQuoRem_all wc w.heap.size w.heap.size w.heap.size gm 0 gc 0 gc 2 gc 0 0 P P Q false s false s (.slice none 0 0) v u v hCv.m hCv.a hCv.b hCv.a (fun k hk => by simp [Value.ownBlock] at hk) (.inl hCv.ne) hCv.keep.size (by omega) hq0 (.inr (.inl hlQ)) (hThr.out _ hCv.keep).1 hggH.out.2.1
   have hQR := Lib.hid hQR
   have hCvX := Lib.hid hCv
   have hMM := Lib.hid (And.intro hdv (And.intro hmd (And.intro hM00 (And.intro hlM hM0))))
   clear hPQ hlP hlQ hp0 hq0 hCv hdv hmd hM00 hlM hM0 hP hQ hCvH
   go_wp2_with fail
   refine hQR.out.mono ?_
   rintro e w11 ⟨qv, zv2, rfl, ho11⟩
   have hCv11 := hCvX.out.qrM ho11
   rw [hMM.out.1, hMM.out.2.1, show (decide (M0 ≠ 0) && (s != false)) = s by simp [hMM.out.2.2.1], show (decide ((0 : Nat) ≠ 0) && s) = false by simp] at hCv11
   have hCv11 := Lib.hid hCv11
   clear ho11 hQR hCvX
   go_wp2_with fail
   refine (natZero_any w11).mono ?_
   rintro e w12 ⟨g12, v12, rfl, hz12⟩
   have hCv12 := hCv11.out.fresh hz12.keep
   have hgc12 := hCv11.out.a.known.lt
   have hge12 := hz12.ge
   have hC12 := intCmp_any w12 w.heap.size w11.heap.size gc 0 g12 0 0 0 false false zv2 v12 hCv12.a hz12.at_ (fun e => by injection e; omega) (by rw [digs_zero]; simp) (by rw [digs_zero]; simp)
   rw [show cmpZ false 0 false 0 = 0 from rfl] at hC12
   have hC12 := Lib.hid hC12
   have hCv12 := Lib.hid hCv12
   clear hz12 hCv11
   go_wp2_with fail
   refine hC12.out.mono ?_
   rintro e w13 ⟨rfl, q13, hq13⟩
   have hCv13 := Lib.hid (show Cv w w13 gc gm false false s zv2 u qv 0 Q M0 from hCv12.out.fresh (by rw [hq13]; exact (Keeps.refl _ _).drewN q13))
   clear hq13 hCv12
   go_wp2_with fail
   go_loopg [16] M0 (fun k X wr => ∃ (M j a2 b2 : Nat) (F : Int) (sa sb : Bool) (va vb vm : Value), k = M ∧ X = .int .i64 F ∧ Cv w wr gc gm sa sb s va vb vm a2 b2 M ∧ M ≠ 0 ∧ (digs WB M).length ≤ 11 ∧ M * 10 ^ j = wm * 10 ^ t ∧ F = (k2 : Int) - k1 - t + j)
   case atStart => exact ⟨M0, 0, 0, Q, E, false, false, zv2, u, qv, rfl, rfl, hCv13.out, hMM.out.2.2.1, hMM.out.2.2.2.1, by rw [Nat.pow_zero, Nat.mul_one]; exact hMM.out.2.2.2.2.symm, by have := hUH.out.exp; have := hEe.out; omega⟩
   case round =>
    obtain ⟨M, j, a2, b2, F, sa, sb, va, vb, vm, hk, rfl, hL, hM0, hlM, hrel, hF⟩ := hrel
    have hjt := dec_exp_lt hrel hM0 hIH.out.hw
    have z1 := hIH.out.h1
    have z2 := hIH.out.h2
    have z3 := hUH.out.exp
    have z4 := hUH.out.e1
    have f1 : F < 6111 := by omega
    have f2 : -400 ≤ F := by omega
    have hLH := Lib.hid hL
    have hrelH := Lib.hid hrel
    have hFH := Lib.hid hF
    have hkH := Lib.hid hk
    clear hrel hF hk hjt z1 z2 z3 z4 hL
    go_wp2_with fail
    refine (natTen_any wr).mono ?_
    rintro e w14 ⟨g14, v14, rfl, hz14⟩
    have hL14 := hLH.out.fresh hz14.keep
    have hQ14 := Lib.hid (intQuoRem_all w14 w.heap.size w.heap.size wr.heap.size gc 0 gm 0 g14 0 gc 2 a2 b2 M 10 sa s false sb va vm v14 vb hL14.a hL14.m hz14.at_ hL14.b hL14.ab (.inr (.inl (Nat.le_refl _))) hL14.keep.size (by omega) (by decide) (.inl (by rw [WB_eq]; decide)) (hThr.out _ hL14.keep).1 hggH.out.2.1)
    have hL14 := Lib.hid hL14
    clear hz14
    go_wp2_with fail
    refine hQ14.out.mono ?_
    rintro e w15 ⟨q15, z15, rfl, ho15⟩
    have hL15 := Lib.hid (hL14.out.qrA ho15)
    clear ho15
    go_wp2_with fail
    refine (natZero_any w15).mono ?_
    rintro e w16 ⟨g16, v16, rfl, hz16⟩
    have hL16 := hL15.out.fresh hz16.keep
    have hgc16 := hL15.out.a.known.lt
    have hge16 := hz16.ge
    have hl10 : (digs WB (M % 10)).length ≤ 10000 := Nat.le_trans (digs_length_mono WB_one (Nat.mod_le _ _)) (by omega)
    have hC16 := Lib.hid (intCmp_any w16 w.heap.size w15.heap.size gc 2 g16 0 (M % 10) 0 (decide (M % 10 ≠ 0) && s) false z15 v16 hL16.b hz16.at_ (fun e => by injection e; omega) hl10 (by rw [digs_zero]; simp))
    have hL16 := Lib.hid hL16
    clear hz16 hl10 hL15 hL14 hQ14
    by_cases hm10 : M % 10 = 0
    ·rw [hm10] at hC16
     rw [show cmpZ (decide ((0 : Nat) ≠ 0) && s) 0 false 0 = 0 by simp [cmpZ, cmpI]] at hC16
     have hm10H := Lib.hid hm10
     have hMd : M / 10 ≠ 0 := by omega
     have hMlt := Lib.hid (show M / 10 < M by omega)
     have hMd := Lib.hid hMd
     have hrel' := Lib.hid (cv_strip hrelH.out hm10)
     have hld : (digs WB (M / 10)).length ≤ 11 := Nat.le_trans (digs_length_mono WB_one (Nat.div_le_self _ _)) hlM
     clear hm10
     go_wp2_with fail
     refine hC16.out.mono ?_
     rintro e w17 ⟨rfl, q17, hq17⟩
     have hL17 := hL16.out.fresh (show Keeps (fun _ => False) w16 w17 by rw [hq17]; exact (Keeps.refl _ _).drewN q17)
     have hSt := Lib.hid (intSet_any w17 w.heap.size w.heap.size gm 0 gc 0 M (M / 10) s _ vm q15 hL17.m hL17.a (fun e => hL17.ne (by injection e)) (Nat.le_trans hL17.keep.size (Nat.le_refl _)) (by omega))
     have hL17 := Lib.hid hL17
     clear hq17 hL16
     go_wp2_with fail
     refine hSt.out.mono ?_
     rintro e w18 ⟨v18, rfl, ho18⟩
     have hL18 := hL17.out.putM ho18
     rw [show (decide (M / 10 ≠ 0) && (s != false)) = s by simp [hMd.out]] at hL18
     have hL18 := Lib.hid hL18
     clear ho18
     have hF1 : F + 1 < 6112 := by omega
     go_wp2_with fail
     go_roundg (M / 10)
     case measure => rw [hkH.out]; exact hMlt.out
     case rel => exact ⟨M / 10, j + 1, _, _, F + 1, _, _, _, _, _, rfl, by go_num, hL18.out, hMd.out, hld, hrel'.out, by have := hFH.out; omega⟩
    ·have t5 : ((cmpZ (decide (M % 10 ≠ 0) && s) (M % 10) false 0) != 0) = true := by
      unfold cmpZ
      cases s
      ·simp only [Bool.and_false, if_true, Bool.false_eq_true, if_false]
       rw [cmpI_gt (by omega)]; rfl
      ·simp [hm10]
     generalize cmpZ (decide (M % 10 ≠ 0) && s) (M % 10) false 0 = cz3 at *
     have hm10H := Lib.hid hm10
     clear hm10
     go_wp2_with fail
     refine hC16.out.mono ?_
     rintro e w17 ⟨rfl, q17, hq17⟩
     have hL17 := Lib.hid (hL16.out.fresh (show Keeps (fun _ => False) w16 w17 by rw [hq17]; exact (Keeps.refl _ _).drewN q17))
     clear hq17 hL16
     go_wp2_with fail
     refine bodyPost_ret (v := .tuple #[.int .i64 F, .int .u8 0]) (by simp [results, Tryz.results158, go_sem]) rfl ?_
     exact ⟨F, M, j, t, vm, rfl, hL17.out.m, hL17.out.keep, hM0, hm10H.out, hrelH.out, hFH.out⟩
set_option maxRecDepth 100000 in
set_option maxHeartbeats 1000000 in
theorem ratToDec_zero (w : World) (br gr gm d : Nat) (s : Bool) (v0 u0 : Value) (hr : RatAt w br gr s false v0 u0 0 d) (hs : s = false) (hm : IntAt w w.heap.size gm 0 false (.slice none 0 0) 0) :
  Calls Tryz.prog 158 #[.pointer (some ⟨gr, 0, none⟩), .pointer (some ⟨gm, 0, none⟩), .int .i64 34, .int .i64 (-6176), .int .i64 6111] w fun e w' => ∃ v, e = .returned (.tuple #[.int .i64 0, .int .u8 0]) ∧ IntAt w' w.heap.size gm 0 false v 0 ∧ Keeps (fun k => k = gm) w w' := by
 subst hs
 have hN := Lib.hid (ratNum_any w gr)
 have hgl := hr.num.known.lt
 have hml := hm.known.lt
 have hrH := Lib.hid hr
 have hmH := Lib.hid hm
 clear hr hm
 go_enter Tryz.func158, Tryz.ntmps158
 go_wp2_with fail
 refine hN.out.mono ?_
 rintro e w1 ⟨rfl, hw1⟩
 obtain rfl := hw1.symm
 go_wp2_with fail
 refine (natZero_any w).mono ?_
 rintro e w1 ⟨gz, zv, rfl, hz⟩
 have hk1 := hz.keep
 have hgzl := hz.ge
 have hC := intCmp_any w1 br _ gr 0 gz 0 0 0 false false v0 zv (hrH.out.num.kept hk1 (fun h => h) (fun _ _ h => h)) hz.at_ (fun e => by injection e; omega) (by rw [digs_zero]; simp) (by rw [digs_zero]; simp)
 rw [show cmpZ false 0 false 0 = 0 from rfl] at hC
 have hC := Lib.hid hC
 have hk1 := Lib.hid hk1
 clear hz
 go_wp2_with fail
 refine hC.out.mono ?_
 rintro e w2 ⟨rfl, q2, hq2⟩
 have hk2 : Keeps (fun _ => False) w w2 := by rw [hq2]; exact hk1.out.drewN q2
 have hk2 := Lib.hid hk2
 clear hq2 hC
 go_wp2_with fail
 refine (natZero_any w2).mono ?_
 rintro e w3 ⟨g3, v3, rfl, hz3⟩
 have hk3 := hk2.out.trans hz3.keep (fun _ _ h => h)
 have hge3 := hz3.ge
 have hs2 := hk2.out.size
 have hS := Lib.hid (intSet_any w3 w.heap.size w2.heap.size gm 0 g3 0 0 0 false false _ v3 (hmH.out.kept hk3 (fun h => h) (fun _ _ h => h)) hz3.at_ (fun e => by injection e; omega) hk3.size (by rw [digs_zero]; simp))
 have hk3 := Lib.hid hk3
 clear hz3
 go_wp2_with fail
 refine hS.out.mono ?_
 rintro e w4 ⟨v4, rfl, ho4⟩
 have ho4 := Lib.hid ho4
 go_wp2_with fail
 refine bodyPost_ret (v := .tuple #[.int .i64 0, .int .u8 0]) (by simp [results, Tryz.results158, go_sem]) rfl ?_
 exact ⟨v4, rfl, ho4.out.at_, (hk3.out.mono (fun _ _ h => h.elim)).trans ho4.out.keep (fun k hk e => e.elim id (fun e => by simp [Value.ownBlock] at e))⟩
end Go.Proofs.YtgamldefngehlaaGreatDoor
