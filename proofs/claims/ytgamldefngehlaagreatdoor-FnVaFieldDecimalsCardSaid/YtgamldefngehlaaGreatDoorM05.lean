/- Parts of the walk. -/
import Derived.Test.YtgamldefngehlaaGreatDoorM02
import Derived.Test.YtgamldefngehlaaGreatDoorM03
import Derived.Lib.ItoaNum
import Derived.Laws.Bits64b
set_option linter.unusedVariables false
set_option linter.unusedSimpArgs false
namespace Go.Proofs.YtgamldefngehlaaGreatDoor
open Go.RowKit
theorem and63 {s : Nat} (h : s ≤ 63) : bits .and .u64 (s : Int) 63 = (s : Int) := by
 have := bits_and_u64_nat s 63 (by omega) (by omega)
 rw [show (63 : Int) = ((63 : Nat) : Int) from rfl, this, show s &&& 63 = s % 64 from Nat.and_two_pow_sub_one_eq_mod s 6, Nat.mod_eq_of_lt (by omega)]
def shrN (x t : Nat) : Nat := x / 2 ^ t
def shlN (x s : Nat) : Nat := x * 2 ^ s % WB
theorem shlN_lt (x s : Nat) : shlN x s < WB := Nat.mod_lt _ WB_pos
theorem shrN_lt {x : Nat} (h : x < WB) (t : Nat) : shrN x t < WB := Nat.lt_of_le_of_lt (Nat.div_le_self _ _) h
theorem shrI {t : Nat} (h : t ≤ 64) (x : Nat) : (x : Int) / 2 ^ min t 64 = (shrN x t : Int) := by
 rw [Nat.min_eq_left h]; simp [shrN]
theorem shrI' (t x : Nat) : (x : Int) / 2 ^ t = (shrN x t : Int) := by simp [shrN]
theorem shlI' (s x : Nat) : IntKind.u64.wrap ((x : Int) * 2 ^ s) = (shlN x s : Int) := by
 rw [IntKind.wrap_u64]; simp [shlN, WB_eq]
theorem shlI {s : Nat} (h : s ≤ 64) (x : Nat) : IntKind.u64.wrap ((x : Int) * 2 ^ min s 64) = (shlN x s : Int) := by
 rw [Nat.min_eq_left h, IntKind.wrap_u64]; simp [shlN, WB_eq]
theorem orI {a b c : Nat} (ha : a < WB) (hb : b < WB) (h : a ||| b = c) : bits .or .u64 (a : Int) (b : Int) = (c : Int) := by
 rw [← h]; exact bits_or_u64_nat a b ha hb
structure TopOut (w w' : World) (bz oz : Nat) (C zs : List Nat) (i : Nat) : Prop where
 blk : Blk w' bz (over C (oz + i) (zs.drop i))
 keep : Keeps (fun k => k = bz) w w'
theorem TopOut.start {w : World} {bz oz n : Nat} {C zs : List Nat} (h : Blk w bz C) (hn : zs.length = n) : TopOut w w bz oz C zs n := ⟨by rw [List.drop_of_length_le (by omega), over_nil]; exact h, Keeps.refl _ _⟩
theorem TopOut.set {w w' : World} {bz oz i d : Nat} {C zs : List Nat} (h : TopOut w w' bz oz C zs (i + 1)) (hd : zs[i]? = some d) (hl : oz + zs.length ≤ C.length) : TopOut w (w'.setCell ⟨bz, oz + i, none⟩ (.int .u64 (d : Int))) bz oz C zs i := by
 obtain ⟨hi, rfl⟩ := List.getElem?_eq_some_iff.1 hd
 refine ⟨?_, h.keep.setCell _ _ (fun _ => rfl)⟩
 rw [← over_top C oz zs i hi hl]
 have hb := h.blk
 rw [← Nat.add_assoc] at hb
 exact hb.set _ _
theorem TopOut.drew {w w' : World} {bz oz i : Nat} {C zs : List Nat} (h : TopOut w w' bz oz C zs i) : TopOut w w'.drew bz oz C zs i := ⟨h.blk, h.keep.drew⟩
theorem TopOut.drewN {w w' : World} {bz oz i : Nat} {C zs : List Nat} (h : TopOut w w' bz oz C zs i) (k : Nat) : TopOut w (w'.drewN k) bz oz C zs i := ⟨h.blk, h.keep.drewN k⟩
theorem TopOut.read {w w' : World} {bz oz i : Nat} {C zs : List Nat} (h : TopOut w w' bz oz C zs i) (hz : Blk w bz C) {bx ox : Nat} {xs : List Nat} (hx : Vec w bx ox xs) (ha : bx ≠ bz ∨ ox = oz) (hl : oz + i ≤ C.length) (j : Nat) (hj : j < xs.length) (hji : j < i) :
  w'.cell? ⟨bx, ox + j, none⟩ = some (.int .u64 (xs[j] : Int)) := by
 by_cases e : bx = bz
 ·subst e
  obtain rfl := ha.resolve_left (fun h => h rfl)
  have h1 := hx j hj
  rw [cellOf hz] at h1
  rw [cellOf h.blk]
  have h2 : (over C (ox + i) (zs.drop i))[ox + j]? = C[ox + j]? := over_get_lt _ _ _ _ (by omega) hl
  simpa [u64s, h2] using h1
 ·exact h.keep.cellS (hx j hj) e
theorem TopOut.there {w w' : World} {bz oz i : Nat} {C zs : List Nat} (h : TopOut w w' bz oz C zs i) (hl : oz + zs.length ≤ C.length) (hi : i ≤ zs.length) (j : Nat) (hj : j < zs.length) : ∃ u, w'.cell? ⟨bz, oz + j, none⟩ = some u := by
 have : oz + j < (over C (oz + i) (zs.drop i)).length := by rw [over_length _ _ _ (by simp; omega)]; omega
 exact ⟨_, h.blk.cell _ this⟩
theorem TopOut.done {w w' : World} {bz oz n : Nat} {C zs : List Nat} (h : TopOut w w' bz oz C zs 0) (hw : Words WB zs) (hn : zs.length = n) : VecOut w w' bz oz C zs n := ⟨hn, hw, by have := h.blk; simpa using this, h.keep⟩
set_option maxRecDepth 100000 in
theorem lshVU_g_any (w : World) (bz oz cz bx ox cx n s : Nat) (C xs : List Nat) (hz : Blk w bz C) (hx : Vec w bx ox xs) (hxn : xs.length = n) (hC : oz + n ≤ C.length)
  (ax : bx ≠ bz ∨ ox = oz) (wx : Words WB xs) (hs0 : 1 ≤ s) (hs1 : s ≤ 63) (h0 : 0 < n) (hn : n ≤ 1000000) :
  Calls Tryz.prog 311 #[.slice (some ⟨bz, oz, none⟩) n cz, .slice (some ⟨bx, ox, none⟩) n cx, .int .u64 s] w fun e w' =>
   e = .returned (.int .u64 (shlC s 0 xs : Nat)) ∧ VecOut w w' bz oz C (shlW s 0 xs) n := by
 have hn0 : ¬ n = 0 := by omega
 have hs0' : ¬ s = 0 := by omega
 have hxl := hx (n - 1) (by omega)
 obtain ⟨t, ht⟩ : ∃ t, s + t = 64 := ⟨64 - s, by omega⟩
 have e1 := and63 hs1
 have e2 := and63 (show t ≤ 63 by omega)
 have e3 : (64 : Int) - (s : Int) = (t : Int) := by omega
 have e4 := shrI (show t ≤ 64 by omega)
 have e5 := shlI (show s ≤ 64 by omega)
 have e6 := shrI' t
 have e7 := shlI' s
 have hzl : (shlW s 0 xs).length = n := by rw [shlW_length, hxn]
 have hww := shlW_words (show s ≤ 64 by omega) wx (two_pos s)
 have hcl : shlC s 0 xs = shrN xs[n - 1] t := by
  have := shlC_last s xs 0 (by omega)
  rw [this]
  simp only [hxn, shrN, show 64 - s = t by omega]
 rw [hcl]
 clear hcl
 have en : (n : Int) - 1 = ((n - 1 : Nat) : Int) := by omega
 go_enter Tryz.func311, Tryz.ntmps311
 go_wp2_with fail
 clear en
 go_loopw [8] (fun i wr => ∃ k : Nat, k < n ∧ i = .int .i64 k ∧ TopOut w wr bz oz C (shlW s 0 xs) (k + 1)) (fun i _ => (intOf i).toNat)
 case atStart => exact ⟨n - 1, by omega, rfl, by rw [show n - 1 + 1 = n by omega]; exact .start hz hzl⟩
 case round =>
  obtain ⟨k, hk, rfl, hout⟩ := hrel
  have hxk := hout.read hz hx ax (by omega) k (by omega) (by omega)
  have hfk := hout.blk.frozen (oz + k)
  obtain ⟨u, hzk⟩ := hout.there (by omega) (by omega) k (by omega)
  have wxk := wx.get k (by omega)
  by_cases hlt : 0 < k
  ·obtain ⟨k, rfl⟩ : ∃ j, k = j + 1 := ⟨k - 1, by omega⟩
   have hxj := hout.read hz hx ax (by omega) k (by omega) (by omega)
   have wxj := wx.get k (by omega)
   have ek : (((k + 1 : Nat) : Int)) - 1 = (k : Int) := by omega
   have hsucc := shlW_succ s xs 0 k (by omega)
   have hor := orI (shlN_lt xs[k + 1] s) (shrN_lt wxj t) (c := xs[k + 1] * 2 ^ s % WB + xs[k] / 2 ^ (64 - s)) (by unfold shlN shrN; rw [show t = 64 - s by omega]; exact shl_or (by omega) (shr_lt (by omega) wxj))
   generalize xs[k + 1] * 2 ^ s % WB + xs[k] / 2 ^ (64 - s) = d at *
   have hsucc' := Lib.hid hsucc
   clear hsucc
   go_wp2_with fail
   go_region
   go_wp2_with fail
   go_roundw
   case rel =>
    exact ⟨k, by omega, by go_num, (hout.set hsucc'.out (by omega)).drew⟩
   case measure => simp [intOf]
  ·obtain rfl : k = 0 := by omega
   rw [Nat.add_zero] at hxk hzk hfk
   have hz0 := shlW_zero s xs (by omega) 0
   have hfin := hout.set hz0 (by omega)
   rw [Nat.add_zero, Nat.add_zero] at hfin
   have hfin' := Lib.hid hfin
   clear hfin hz0 hlt
   have hc0 : ((0 : Nat) : Int) = 0 := rfl
   rw [hc0]
   clear hc0
   go_wp2_with fail
   go_ret
   exact ⟨rfl, TopOut.done hfin'.out hww hzl⟩
theorem lshVU_any (w : World) (bz oz cz bx ox cx n s : Nat) (C xs : List Nat) (hz : Blk w bz C) (hx : Vec w bx ox xs) (hxn : xs.length = n) (hC : oz + n ≤ C.length)
  (ax : bx ≠ bz ∨ ox = oz) (wx : Words WB xs) (hs0 : 1 ≤ s) (hs1 : s ≤ 63) (h0 : 0 < n) (hn : n ≤ 1000000) :
  Calls Tryz.prog 289 #[.slice (some ⟨bz, oz, none⟩) n cz, .slice (some ⟨bx, ox, none⟩) n cx, .int .u64 s] w fun e w' =>
   e = .returned (.int .u64 (shlC s 0 xs : Nat)) ∧ VecOut w w' bz oz C (shlW s 0 xs) n := by
 have hP := Lib.hid (lshVU_g_any w bz oz cz bx ox cx n s C xs hz hx hxn hC ax wx hs0 hs1 h0 hn)
 clear hz hx hxn hC ax wx hs0 hs1 h0 hn
 go_enter Tryz.func289, Tryz.ntmps289
 go_wp2_with fail
 refine hP.out.mono ?_
 rintro e w' ⟨rfl, h⟩
 go_wp2
 go_ret
 exact ⟨rfl, h⟩
set_option maxRecDepth 100000 in
theorem rshVU_g_any (w : World) (bz oz cz bx ox cx n s : Nat) (C xs : List Nat) (hz : Blk w bz C) (hx : Vec w bx ox xs) (hxn : xs.length = n) (hC : oz + n ≤ C.length)
  (ax : bx ≠ bz ∨ ox = oz) (wx : Words WB xs) (hs0 : 1 ≤ s) (hs1 : s ≤ 63) (h0 : 0 < n) (hn : n ≤ 1000000) :
  Calls Tryz.prog 315 #[.slice (some ⟨bz, oz, none⟩) n cz, .slice (some ⟨bx, ox, none⟩) n cx, .int .u64 s] w fun e w' =>
   (∃ c : Nat, e = .returned (.int .u64 c)) ∧ VecOut w w' bz oz C (shrW s xs) n := by
 have hn0 : ¬ n = 0 := by omega
 have hs0' : ¬ s = 0 := by omega
 have hx0 := hx 0 (by omega)
 rw [Nat.add_zero] at hx0
 obtain ⟨t, ht⟩ : ∃ t, s + t = 64 := ⟨64 - s, by omega⟩
 have e1 := and63 hs1
 have e2 := and63 (show t ≤ 63 by omega)
 have e3 : (64 : Int) - (s : Int) = (t : Int) := by omega
 have e4 := shrI (show s ≤ 64 by omega)
 have e5 := shlI (show t ≤ 64 by omega)
 have e6 := shrI' s
 have e7 := shlI' t
 have hzl : (shrW s xs).length = n := by rw [shrW_length, hxn]
 have hww := shrW_words (show s ≤ 64 by omega) wx
 go_enter Tryz.func315, Tryz.ntmps315
 go_wp2_with fail
 go_loopw [8] (fun i wr => ∃ k : Nat, k < n ∧ i = .int .i64 ((k + 1 : Nat) : Int) ∧ VecOut w wr bz oz C ((shrW s xs).take k) k) (fun i _ => n - (intOf i).toNat)
 case atStart => exact ⟨0, h0, rfl, by simpa using VecOut.start hz⟩
 case round =>
  obtain ⟨k, hk, rfl, hout⟩ := hrel
  have hxk := hout.read hz hx ax (by omega) k (by omega) (Nat.le_refl _)
  have hfk := hout.room (oz + k)
  obtain ⟨u, hzk⟩ := hout.there (by omega)
  have wxk := wx.get k (by omega)
  have ek : (((k + 1 : Nat) : Int)) - 1 = (k : Int) := by omega
  by_cases hlt : k + 1 < n
  ·have hxj := hout.read hz hx ax (by omega) (k + 1) (by omega) (by omega)
   have wxj := wx.get (k + 1) (by omega)
   have hget := shrW_get s xs k (by omega)
   have hor := orI (shrN_lt wxk s) (shlN_lt xs[k + 1] t) (c := xs[k] / 2 ^ s + xs[k + 1] * 2 ^ (64 - s) % WB) (by unfold shlN shrN; rw [show t = 64 - s by omega]; exact shr_or (by omega) wxk)
   have hdl := shr_sum_lt (y := xs[k + 1]) (show s ≤ 64 by omega) wxk
   generalize xs[k] / 2 ^ s + xs[k + 1] * 2 ^ (64 - s) % WB = d at *
   have hfin := hout.snoc d hdl (by omega)
   have e8 : (shrW s xs).take k ++ [d] = (shrW s xs).take (k + 1) := by
    rw [List.take_add_one, hget]; rfl
   rw [e8] at hfin
   have hfin' := Lib.hid hfin
   clear hget hfin e8
   go_wp2_with fail
   go_region
   go_wp2_with fail
   go_roundw
   case rel => exact ⟨k + 1, by omega, by go_num, hfin'.out.drew⟩
   case measure => simp [intOf]; omega
  ·obtain rfl : n = k + 1 := by omega
   have hget := shrW_last s xs (by omega)
   have e9 : xs.length - 1 = k := by omega
   simp only [e9] at hget
   have hfin := hout.snoc (shrN xs[k] s) (shrN_lt wxk s) (by omega)
   have e8 : (shrW s xs).take k ++ [shrN xs[k] s] = shrW s xs := by
    have : (shrW s xs).take (k + 1) = shrW s xs := List.take_of_length_le (by omega)
    conv => rhs; rw [← this, List.take_add_one, hget]
    rfl
   rw [e8] at hfin
   have hfin' := Lib.hid hfin
   clear hget hfin e8 e9
   go_wp2_with fail
   go_ret
   exact ⟨⟨_, rfl⟩, hfin'.out⟩
theorem rshVU_any (w : World) (bz oz cz bx ox cx n s : Nat) (C xs : List Nat) (hz : Blk w bz C) (hx : Vec w bx ox xs) (hxn : xs.length = n) (hC : oz + n ≤ C.length)
  (ax : bx ≠ bz ∨ ox = oz) (wx : Words WB xs) (hs0 : 1 ≤ s) (hs1 : s ≤ 63) (h0 : 0 < n) (hn : n ≤ 1000000) :
  Calls Tryz.prog 292 #[.slice (some ⟨bz, oz, none⟩) n cz, .slice (some ⟨bx, ox, none⟩) n cx, .int .u64 s] w fun e w' =>
   (∃ c : Nat, e = .returned (.int .u64 c)) ∧ VecOut w w' bz oz C (shrW s xs) n := by
 have hP := Lib.hid (rshVU_g_any w bz oz cz bx ox cx n s C xs hz hx hxn hC ax wx hs0 hs1 h0 hn)
 clear hz hx hxn hC ax wx hs0 hs1 h0 hn
 go_enter Tryz.func292, Tryz.ntmps292
 go_wp2_with fail
 refine hP.out.mono ?_
 rintro e w' ⟨⟨c, rfl⟩, h⟩
 go_wp2
 go_ret
 exact ⟨⟨c, rfl⟩, h⟩
end Go.Proofs.YtgamldefngehlaaGreatDoor
namespace Go.Proofs.YtgamldefngehlaaGreatDoor
open Go.RowKit
def nlzN (x : Nat) : Nat := 64 - Lib.bitLen x
theorem bitLen_bounds {x : Nat} (h0 : x ≠ 0) (h : x < WB) : 1 ≤ Lib.bitLen x ∧ 2 ^ (Lib.bitLen x - 1) ≤ x ∧ x < 2 ^ Lib.bitLen x ∧ Lib.bitLen x ≤ 64 := by
 rw [WB_eq] at h
 obtain ⟨a, b, c⟩ := Lib.bitLenAux_bounds 64 x (by omega) h0
 exact ⟨a, b, c, Lib.bitLen_le x 64 (Nat.le_refl _) (by omega)⟩
theorem nlz_le {x : Nat} (h0 : x ≠ 0) (h : x < WB) : nlzN x ≤ 63 := by
 have := bitLen_bounds h0 h; unfold nlzN; omega
theorem nlz_norm {x : Nat} (h0 : x ≠ 0) (h : x < WB) : x * 2 ^ nlzN x < WB ∧ WB ≤ 2 * (x * 2 ^ nlzN x) := by
 obtain ⟨h1, h2, h3, h4⟩ := bitLen_bounds h0 h
 have e : WB = 2 ^ Lib.bitLen x * 2 ^ nlzN x := by
  unfold nlzN
  rw [← Nat.pow_add, show Lib.bitLen x + (64 - Lib.bitLen x) = 64 by omega, WB_eq]
 constructor
 ·rw [e]; exact Nat.mul_lt_mul_of_pos_right h3 (two_pos _)
 ·rw [e, ← Nat.mul_assoc]
  refine Nat.mul_le_mul_right _ ?_
  have : 2 ^ Lib.bitLen x = 2 * 2 ^ (Lib.bitLen x - 1) := by
   conv => lhs; rw [show Lib.bitLen x = Lib.bitLen x - 1 + 1 by omega]
   rw [Nat.pow_succ, Nat.mul_comm]
  omega
theorem nlz_zero {x : Nat} (h0 : WB ≤ 2 * x) (h : x < WB) : nlzN x = 0 := by
 have hw := WB_pos
 obtain ⟨h1, h2, h3, h4⟩ := bitLen_bounds (show x ≠ 0 by omega) h
 have : ¬ Lib.bitLen x ≤ 63 := fun hl => by
  have := Nat.lt_of_lt_of_le h3 (Nat.pow_le_pow_right (by omega) hl)
  rw [WB_eq] at h0
  omega
 unfold nlzN; omega
theorem nlz_any (x : Nat) (hx : x < WB) (w : World) : Calls Tryz.prog 283 #[.int .u64 x] w fun e w' => e = .returned (.int .u64 (nlzN x : Nat)) ∧ w' = w := by
 have hl : Lib.bitLen x ≤ 64 := by rw [WB_eq] at hx; exact Lib.bitLen_le x 64 (by omega) (by omega)
 have e1 := wrapW hx
 have e2 : IntKind.u64.wrap (64 - (Lib.bitLen x : Int)) = (nlzN x : Int) := by
  rw [IntKind.wrap_u64]; unfold nlzN; omega
 have hP := Lib.hid (bitsLz x hx w)
 clear hx hl
 go_enter Tryz.func283, Tryz.ntmps283
 go_wp2_with fail
 refine hP.out.mono ?_
 rintro e w' ⟨rfl, rfl⟩
 go_wp2
 go_ret
 exact ⟨rfl, rfl⟩
theorem lz64_any (x : Nat) (hx : x < WB) (w : World) : Calls Tryz.prog 347 #[.int .u64 x] w fun e w' => e = .returned (.int .i64 (nlzN x : Nat)) ∧ w' = w := by
 have hl : Lib.bitLen x ≤ 64 := by rw [WB_eq] at hx; exact Lib.bitLen_le x 64 (by omega) (by omega)
 have e2 : (64 : Int) - (Lib.bitLen x : Int) = (nlzN x : Int) := by unfold nlzN; omega
 have hP := Lib.hid (Any.bits_Len64 { laysLz with } x w (by omega) (by rw [WB_eq] at hx; omega))
 clear hx
 go_enter Tryz.func347, Tryz.ntmps347
 go_wp2_with fail
 refine hP.out.mono ?_
 rintro e w' ⟨rfl, rfl⟩
 rw [Int.toNat_natCast]
 go_wp2
 go_ret
 exact ⟨rfl, rfl⟩
end Go.Proofs.YtgamldefngehlaaGreatDoor
namespace Go.Proofs.YtgamldefngehlaaGreatDoor
open Go.RowKit
def expV (e s : Nat) : Nat := e % 2 ^ s * 2 ^ (64 - s)
theorem expV_lt (e : Nat) {s : Nat} (h : s ≤ 64) : expV e s < WB := by
 rw [WB_split h]
 exact Nat.mul_lt_mul_of_pos_right (Nat.mod_lt _ (two_pos _)) (two_pos _)
theorem expV_split (e : Nat) {s : Nat} (h : s ≤ 63) : expV e (s + 1) = e / 2 ^ s % 2 * 2 ^ 63 + e % 2 ^ s * 2 ^ (63 - s) := by
 unfold expV
 rw [Nat.mod_pow_succ, Nat.add_mul, show 64 - (s + 1) = 63 - s by omega]
 have : 2 ^ s * 2 ^ (63 - s) = 2 ^ 63 := by rw [← Nat.pow_add, show s + (63 - s) = 63 by omega]
 rw [Nat.mul_right_comm, this]
 rw [Nat.mul_comm (2 ^ 63)]
 omega
theorem expV_rest (e : Nat) {s : Nat} (h : s ≤ 63) : expV e s = 2 * (e % 2 ^ s * 2 ^ (63 - s)) ∧ e % 2 ^ s * 2 ^ (63 - s) < 2 ^ 63 := by
 have h1 : expV e s = 2 * (e % 2 ^ s * 2 ^ (63 - s)) := by
  unfold expV
  rw [show 64 - s = 63 - s + 1 by omega, Nat.pow_succ]
  rw [← Nat.mul_assoc, Nat.mul_comm _ 2]
 refine ⟨h1, ?_⟩
 have := expV_lt e (show s ≤ 64 by omega)
 rw [WB_eq] at this
 omega
theorem and_top {b r : Nat} (hb : b = 0 ∨ b = 1) (hr : r < 2 ^ 63) : (b * 2 ^ 63 + r) &&& 2 ^ 63 = b * 2 ^ 63 := by
 have h63 := Nat.testBit_lt_two_pow hr
 refine Nat.eq_of_testBit_eq fun i => ?_
 rw [Nat.testBit_and, Nat.testBit_two_pow]
 by_cases e : 63 = i
 ·subst e
  rcases hb with rfl | rfl
  ·simp [h63]
  ·rw [Nat.one_mul, Nat.testBit_two_pow_add_eq, h63, Nat.testBit_two_pow_self]; rfl
 ·rcases hb with rfl | rfl
  ·simp [e]
  ·rw [Nat.one_mul, Nat.testBit_two_pow]; simp [e]
theorem expV_and (e : Nat) {s : Nat} (h : s ≤ 63) : bits .and .u64 (expV e (s + 1) : Int) 9223372036854775808 = ((e / 2 ^ s % 2 * 9223372036854775808 : Nat) : Int) := by
 have hl := expV_lt e (show s + 1 ≤ 64 by omega)
 rw [show (9223372036854775808 : Int) = ((9223372036854775808 : Nat) : Int) from rfl, bits_and_u64_nat _ _ (by rw [WB_eq] at hl; exact hl) (by omega)]
 congr 1
 have hs := expV_split e h
 obtain ⟨-, hr⟩ := expV_rest e h
 rw [hs]
 exact and_top (by omega) hr
theorem expV_shl (e : Nat) {s : Nat} (h : s ≤ 63) : IntKind.u64.wrap ((expV e (s + 1) : Int) * 2) = (expV e s : Int) := by
 have hs := expV_split e h
 obtain ⟨h1, hr⟩ := expV_rest e h
 have hb : e / 2 ^ s % 2 < 2 := Nat.mod_lt _ (by omega)
 rw [IntKind.wrap_u64]
 have : e / 2 ^ s % 2 = 0 ∨ e / 2 ^ s % 2 = 1 := by omega
 rcases this with h | h <;> rw [h] at hs <;> omega
theorem exp_half (a e s : Nat) : a ^ (e / 2 ^ s) = a ^ (e / 2 ^ (s + 1)) * a ^ (e / 2 ^ (s + 1)) * a ^ (e / 2 ^ s % 2) := by
 rw [← Nat.pow_add, ← Nat.pow_add]
 congr 1
 rw [Nat.pow_succ, ← Nat.div_div_eq_div_mul]
 omega
theorem expV_start {e : Nat} (h0 : e ≠ 0) (h : e < WB) : shlN e (nlzN e + 1) = expV e (63 - nlzN e) ∧ e / 2 ^ (63 - nlzN e) = 1 ∧ nlzN e ≤ 63 := by
 have h63 := nlz_le h0 h
 obtain ⟨h1, h2, h3, h4⟩ := bitLen_bounds h0 h
 have hn : nlzN e = 64 - Lib.bitLen e := rfl
 refine ⟨?_, ?_, h63⟩
 ·unfold shlN expV
  rw [shl_low (by omega)]
  rw [show 64 - (nlzN e + 1) = 63 - nlzN e by omega, show 64 - (63 - nlzN e) = nlzN e + 1 by omega]
 ·rw [show 63 - nlzN e = Lib.bitLen e - 1 by omega]
  refine Nat.div_eq_of_lt_le (by omega) ?_
  have : 2 ^ Lib.bitLen e = (1 + 1) * 2 ^ (Lib.bitLen e - 1) := by
   conv => lhs; rw [show Lib.bitLen e = Lib.bitLen e - 1 + 1 by omega]
   rw [Nat.pow_succ, Nat.mul_comm]
  omega
theorem pow_le_bits (a : Nat) (h : 0 < a) (e s : Nat) : a ^ (e / 2 ^ s) ≤ a ^ e := Nat.pow_le_pow_right h (Nat.div_le_self _ _)
end Go.Proofs.YtgamldefngehlaaGreatDoor
