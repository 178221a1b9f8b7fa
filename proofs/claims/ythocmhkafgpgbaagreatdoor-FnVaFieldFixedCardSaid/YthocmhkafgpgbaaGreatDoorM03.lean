/- Parts of the walk. -/
import Derived.Test.YthocmhkafgpgbaaGreatDoorM02
import Derived.Test.YthocmhkafgpgbaaGreatDoorM01
import Derived.StillTailTactics
import Derived.Deep.RegionLaw
import Derived.RegionTactic
import Derived.ChangeAlike
set_option linter.unusedVariables false
set_option linter.unusedSimpArgs false
namespace Go.Proofs.YthocmhkafgpgbaaGreatDoor
open Go.RowKit
def macL (x y c : Nat) : Nat := (x * y + c) % WB
def macH (x y c : Nat) : Nat := (x * y + c) / WB
theorem macL_lt (x y c : Nat) : macL x y c < WB := Nat.mod_lt _ WB_pos
theorem mac_lt {x y c : Nat} (hx : x < WB) (hy : y < WB) (hc : c < WB) : x * y + c < WB * WB := by
 have a : x * y ≤ (WB - 1) * y := Nat.mul_le_mul_right y (by omega)
 have b : (WB - 1) * y ≤ (WB - 1) * (WB - 1) := Nat.mul_le_mul_left _ (by omega)
 have c' : WB * WB = (WB - 1) * (WB - 1) + (WB - 1) + WB := by
  have := WB_pos
  obtain ⟨k, hk⟩ : ∃ k, WB = k + 1 := ⟨WB - 1, by omega⟩
  rw [hk]
  simp only [Nat.add_sub_cancel, Nat.add_mul, Nat.mul_add, Nat.one_mul, Nat.mul_one]
  try omega
 omega
theorem macH_lt {x y c : Nat} (hx : x < WB) (hy : y < WB) (hc : c < WB) : macH x y c < WB := by
 unfold macH
 rw [Nat.div_lt_iff_lt_mul WB_pos]
 exact mac_lt hx hy hc
theorem mac_eq (x y c : Nat) : macL x y c + WB * macH x y c = x * y + c := Nat.mod_add_div _ _
theorem mac_parts {x y c : Nat} (hc : c < WB) : sumW (x * y % WB) c 0 = macL x y c ∧ x * y / WB + carW (x * y % WB) c 0 = macH x y c := by
 unfold sumW carW macL macH
 generalize x * y = p
 have h := Nat.div_add_mod p WB
 constructor
 ·rw [Nat.add_zero, Nat.mod_add_mod]
 ·rw [Nat.add_zero]
  conv => rhs; rw [← h, Nat.add_assoc, Nat.mul_add_div WB_pos]
theorem mac2_eq (y m x c : Nat) : sumW (macL y m x) c 0 + WB * (carW (macL y m x) c 0 + macH y m x) = x + y * m + c := by
 have h1 := sumW_car (macL y m x) c 0
 have h2 := mac_eq y m x
 rw [Nat.mul_add]
 omega
theorem mac2_lt {y m x c : Nat} (hy : y < WB) (hm : m < WB) (hx : x < WB) (hc : c < WB) : carW (macL y m x) c 0 + macH y m x < WB := by
 have h := mac2_eq y m x c
 have h1 : y * m ≤ (WB - 1) * (WB - 1) := Nat.mul_le_mul (by omega) (by omega)
 have h2 : WB * WB = (WB - 1) * (WB - 1) + 2 * (WB - 1) + 1 := by
  have := WB_pos
  obtain ⟨k, hk⟩ : ∃ k, WB = k + 1 := ⟨WB - 1, by omega⟩
  rw [hk]
  simp only [Nat.add_sub_cancel, Nat.add_mul, Nat.mul_add, Nat.one_mul, Nat.mul_one]
  omega
 have h3 : WB * (carW (macL y m x) c 0 + macH y m x) < WB * WB := by omega
 exact Nat.lt_of_mul_lt_mul_left h3
theorem mulWW_any (x y : Nat) (hx : x < WB) (hy : y < WB) (w : World) :
  Calls Tryz.prog 311 #[.int .u64 x, .int .u64 y] w fun e w' => e = .returned (.tuple #[.int .u64 (macH x y 0 : Nat), .int .u64 (macL x y 0 : Nat)]) ∧ w' = w := by
 have e1 := wrapW hx
 have e2 := wrapW hy
 have e3 := wrapW (macL_lt x y 0)
 have e4 := wrapW (macH_lt hx hy WB_pos)
 have hP := Lib.hid (bitsMul x y hx hy w)
 have hl : (x * y % WB : Nat) = macL x y 0 := rfl
 have hh : (x * y / WB : Nat) = macH x y 0 := rfl
 rw [hl, hh] at hP
 clear hl hh hx hy
 go_enter Tryz.func311, Tryz.ntmps311
 go_wp2_with fail
 refine hP.out.mono ?_
 rintro e w' ⟨rfl, rfl⟩
 go_wp2
 go_ret2
 exact ⟨rfl, rfl⟩
theorem mulAddWWW_any (x y c : Nat) (hx : x < WB) (hy : y < WB) (hc : c < WB) (w : World) :
  Calls Tryz.prog 345 #[.int .u64 x, .int .u64 y, .int .u64 c] w fun e w' => e = .returned (.tuple #[.int .u64 (macH x y c : Nat), .int .u64 (macL x y c : Nat)]) ∧ w' = w := by
 have e1 := wrapW hx
 have e2 := wrapW hy
 have e5 := wrapW hc
 have e3 := wrapW (macL_lt x y c)
 have hm := wrapW (macH_lt hx hy hc)
 obtain ⟨p1, p2⟩ := mac_parts (x := x) (y := y) hc
 have hlo : x * y % WB < WB := Nat.mod_lt _ WB_pos
 have hP := Lib.hid (bitsMul x y hx hy w)
 have hQ := Lib.hid (bitsAdd (x * y % WB) c 0 hlo hc (by omega) w)
 rw [← p2] at hm ⊢
 rw [p1] at hQ
 generalize x * y % WB = lo at *
 generalize x * y / WB = hi at *
 generalize carW lo c 0 = k at *
 clear p1 p2 hx hy hc hlo
 simp only [Int.natCast_add] at hm ⊢
 go_enter Tryz.func345, Tryz.ntmps345
 go_wp2_with fail
 refine hP.out.mono ?_
 rintro e w' ⟨rfl, rfl⟩
 go_wp2_with fail
 refine hQ.out.mono ?_
 rintro e w' ⟨rfl, rfl⟩
 go_wp2
 go_ret2
 exact ⟨rfl, rfl⟩
set_option maxRecDepth 100000 in
theorem mulAddVWW_g_any (w : World) (bz oz cz bx ox cx n y r : Nat) (C xs : List Nat) (hz : Blk w bz C) (hx : Vec w bx ox xs) (hxn : xs.length = n) (hC : oz + n ≤ C.length)
  (ax : bx ≠ bz ∨ ox = oz) (wx : Words WB xs) (wy : y < WB) (wr_ : r < WB) (hn : n ≤ 1000000) :
  Calls Tryz.prog 327 #[.slice (some ⟨bz, oz, none⟩) n cz, .slice (some ⟨bx, ox, none⟩) n cx, .int .u64 y, .int .u64 r] w fun e w' =>
   ∃ (zs : List Nat) (c : Nat), e = .returned (.int .u64 ((c : Nat) : Int)) ∧ c < WB ∧ val WB zs + WB ^ n * c = val WB xs * y + r ∧ VecOut w w' bz oz C zs n := by
 go_enter Tryz.func327, Tryz.ntmps327
 go_wp2_with fail
 go_loopw [8, 19] (fun c i wr => ∃ (k : Nat) (zs : List Nat) (cc : Nat), k ≤ n ∧ i = .int .i64 k ∧ c = .int .u64 (cc : Nat) ∧ cc < WB ∧ val WB zs + WB ^ k * cc = val WB (xs.take k) * y + r ∧ VecOut w wr bz oz C zs k) (fun _ i _ => n - (intOf i).toNat)
 case atStart => exact ⟨0, [], r, Nat.zero_le _, rfl, rfl, wr_, by simp [val], .start hz⟩
 case round =>
  obtain ⟨k, zs, cc, hk, rfl, rfl, hcc, hval, hout⟩ := hrel
  by_cases hlt : k < n
  ·have hxk := hout.read hz hx ax (by omega) k (by omega) (Nat.le_refl _)
   obtain ⟨u, hzk⟩ := hout.there (by omega)
   have hfk := hout.room (oz + k)
   have wxk := wx.get k (by omega)
   go_wp2_with fail
   refine (mulAddWWW_any _ _ _ wxk wy hcc _).mono ?_
   rintro e w' ⟨rfl, rfl⟩
   go_wp2_with fail
   go_roundw
   case rel =>
    refine ⟨k + 1, zs ++ [macL xs[k] y cc], macH xs[k] y cc, by omega, by go_num, rfl, macH_lt wxk wy hcc, ?_, hout.snoc _ (macL_lt _ _ _) (by omega)⟩
    rw [val_take_succ xs k (by omega)]
    exact val_step_mul hout.len hval (mac_eq _ _ _)
   case measure => simp [intOf]; omega
  ·obtain rfl : k = n := by omega
   go_wp2_with fail
   go_ret
   refine ⟨zs, cc, rfl, hcc, ?_, hout⟩
   rwa [List.take_of_length_le (by omega)] at hval
theorem mulAddVWW_any (w : World) (bz oz cz bx ox cx n y r : Nat) (C xs : List Nat) (hz : Blk w bz C) (hx : Vec w bx ox xs) (hxn : xs.length = n) (hC : oz + n ≤ C.length)
  (ax : bx ≠ bz ∨ ox = oz) (wx : Words WB xs) (wy : y < WB) (wr_ : r < WB) (hn : n ≤ 1000000) :
  Calls Tryz.prog 302 #[.slice (some ⟨bz, oz, none⟩) n cz, .slice (some ⟨bx, ox, none⟩) n cx, .int .u64 y, .int .u64 r] w fun e w' =>
   ∃ (zs : List Nat) (c : Nat), e = .returned (.int .u64 ((c : Nat) : Int)) ∧ c < WB ∧ val WB zs + WB ^ n * c = val WB xs * y + r ∧ VecOut w w' bz oz C zs n := by
 have hP := Lib.hid (mulAddVWW_g_any w bz oz cz bx ox cx n y r C xs hz hx hxn hC ax wx wy wr_ hn)
 clear hz hx hxn hC ax wx wy wr_ hn
 go_enter Tryz.func302, Tryz.ntmps302
 go_wp2_with fail
 refine hP.out.mono ?_
 rintro e w' ⟨zs, c, rfl, h⟩
 go_wp2
 go_ret
 exact ⟨zs, c, rfl, h⟩
set_option maxRecDepth 100000 in
theorem addMulVVWW_g_any (w : World) (bz oz cz bx ox cx by_ oy cy n m a : Nat) (C xs ys : List Nat) (hz : Blk w bz C) (hx : Vec w bx ox xs) (hy : Vec w by_ oy ys) (hxn : xs.length = n) (hyn : ys.length = n) (hC : oz + n ≤ C.length)
  (ax : bx ≠ bz ∨ ox = oz) (ay : by_ ≠ bz ∨ oy = oz) (wx : Words WB xs) (wy : Words WB ys) (wm : m < WB) (wa : a < WB) (hn : n ≤ 1000000) :
  Calls Tryz.prog 349 #[.slice (some ⟨bz, oz, none⟩) n cz, .slice (some ⟨bx, ox, none⟩) n cx, .slice (some ⟨by_, oy, none⟩) n cy, .int .u64 m, .int .u64 a] w fun e w' =>
   ∃ (zs : List Nat) (c : Nat), e = .returned (.int .u64 ((c : Nat) : Int)) ∧ c < WB ∧ val WB zs + WB ^ n * c = val WB xs + val WB ys * m + a ∧ VecOut w w' bz oz C zs n := by
 go_enter Tryz.func349, Tryz.ntmps349
 go_wp2_with fail
 go_loopw [10, 32] (fun c i wr => ∃ (k : Nat) (zs : List Nat) (cc : Nat), k ≤ n ∧ i = .int .i64 k ∧ c = .int .u64 (cc : Nat) ∧ cc < WB ∧ val WB zs + WB ^ k * cc = val WB (xs.take k) + val WB (ys.take k) * m + a ∧ VecOut w wr bz oz C zs k) (fun _ i _ => n - (intOf i).toNat)
 case atStart => exact ⟨0, [], a, Nat.zero_le _, rfl, rfl, wa, by simp [val], .start hz⟩
 case round =>
  obtain ⟨k, zs, cc, hk, rfl, rfl, hcc, hval, hout⟩ := hrel
  by_cases hlt : k < n
  ·have hxk := hout.read hz hx ax (by omega) k (by omega) (Nat.le_refl _)
   have hyk := hout.read hz hy ay (by omega) k (by omega) (Nat.le_refl _)
   obtain ⟨u, hzk⟩ := hout.there (by omega)
   have hfk := hout.room (oz + k)
   have wxk := wx.get k (by omega)
   have wyk := wy.get k (by omega)
   have hz0 := macL_lt ys[k] m xs[k]
   have hsum := mac2_eq ys[k] m xs[k] cc
   have hlt2 := mac2_lt wyk wm wxk hcc
   have ew : IntKind.u64.wrap (((carW (macL ys[k] m xs[k]) cc 0 : Nat) : Int) + ((macH ys[k] m xs[k] : Nat) : Int)) = ((carW (macL ys[k] m xs[k]) cc 0 + macH ys[k] m xs[k] : Nat) : Int) := by
    rw [← Int.natCast_add]; exact wrapW hlt2
   have hsum' := Lib.hid hsum; clear hsum
   go_wp2_with fail
   go_quiet ((go_at_call 345; exact Calls.quiet_of_same (mulAddWWW_any _ _ _ wyk wm wxk _)))
   go_wp2_with fail
   refine (bitsAdd _ _ 0 hz0 hcc (by omega) _).mono ?_
   rintro e w' ⟨rfl, rfl⟩
   go_wp2_with fail
   go_roundw
   case rel =>
    refine ⟨k + 1, zs ++ [sumW (macL ys[k] m xs[k]) cc 0], carW (macL ys[k] m xs[k]) cc 0 + macH ys[k] m xs[k], by omega, by go_num, rfl, hlt2, ?_, (hout.drewN _).snoc _ (sumW_lt _ _ _) (by omega)⟩
    rw [val_take_succ xs k (by omega), val_take_succ ys k (by omega)]
    exact val_step_mac hout.len hval hsum'.out
   case measure => simp [intOf]; omega
  ·obtain rfl : k = n := by omega
   go_wp2_with fail
   go_ret
   refine ⟨zs, cc, rfl, hcc, ?_, hout⟩
   rwa [List.take_of_length_le (by omega), List.take_of_length_le (by omega)] at hval
theorem addMulVVWW_any (w : World) (bz oz cz bx ox cx by_ oy cy n m a : Nat) (C xs ys : List Nat) (hz : Blk w bz C) (hx : Vec w bx ox xs) (hy : Vec w by_ oy ys) (hxn : xs.length = n) (hyn : ys.length = n) (hC : oz + n ≤ C.length)
  (ax : bx ≠ bz ∨ ox = oz) (ay : by_ ≠ bz ∨ oy = oz) (wx : Words WB xs) (wy : Words WB ys) (wm : m < WB) (wa : a < WB) (hn : n ≤ 1000000) :
  Calls Tryz.prog 333 #[.slice (some ⟨bz, oz, none⟩) n cz, .slice (some ⟨bx, ox, none⟩) n cx, .slice (some ⟨by_, oy, none⟩) n cy, .int .u64 m, .int .u64 a] w fun e w' =>
   ∃ (zs : List Nat) (c : Nat), e = .returned (.int .u64 ((c : Nat) : Int)) ∧ c < WB ∧ val WB zs + WB ^ n * c = val WB xs + val WB ys * m + a ∧ VecOut w w' bz oz C zs n := by
 have hP := Lib.hid (addMulVVWW_g_any w bz oz cz bx ox cx by_ oy cy n m a C xs ys hz hx hy hxn hyn hC ax ay wx wy wm wa hn)
 clear hz hx hy hxn hyn hC ax ay wx wy wm wa hn
 go_enter Tryz.func333, Tryz.ntmps333
 go_wp2_with fail
 refine hP.out.mono ?_
 rintro e w' ⟨zs, c, rfl, h⟩
 go_wp2
 go_ret
 exact ⟨zs, c, rfl, h⟩
end Go.Proofs.YthocmhkafgpgbaaGreatDoor
namespace Go.Proofs.YthocmhkafgpgbaaGreatDoor
open Go.RowKit
def subP (b o k c : Nat) : Option Addr := if c = k then some ⟨b, o, none⟩ else some ⟨b, o + k, none⟩
theorem subP_lt {b o k c : Nat} (h : c ≠ k) : subP b o k c = some ⟨b, o + k, none⟩ := if_neg h
theorem elemW : Tryz.prog.elem 140 = 253 := by kernel_rfl
theorem elemN : Tryz.prog.elem 141 = 253 := by kernel_rfl
theorem sizeW (w : World) : (sizeOf 253).run Tryz.prog w = .ok 1 w := by kernel_rfl
theorem tailT (T : TypeId) (hT : Tryz.prog.underlying T = some (.slice 253)) (hE : Tryz.prog.elem T = 253) (b o n c k : Nat) (hk : k ≤ n) (w : World) :
  (Instr.slice T (.slice (some ⟨b, o, none⟩) n c) (some (.int .i64 (k : Int))) none none).run Tryz.prog w = .ok (.slice (subP b o k c) (n - k) (c - k)) w := by
 rw [run_slice_l w T _ _ _ (by rw [hE]; exact hT) .i64 k (by omega) (by omega), hE, sizeW]
 simp only [Result.andThen, sliced, subP, Int.toNat_natCast, Nat.mul_one]
 by_cases h : c = k
 ·simp [h]
 ·simp [h, Addr.add_lit]
theorem tailW (b o n c k : Nat) (hk : k ≤ n) (w : World) :
  (Instr.slice 140 (.slice (some ⟨b, o, none⟩) n c) (some (.int .i64 (k : Int))) none none).run Tryz.prog w = .ok (.slice (subP b o k c) (n - k) (c - k)) w := tailT 140 Tryz.underlying140 elemW b o n c k hk w
theorem tailN (b o n c k : Nat) (hk : k ≤ n) (w : World) :
  (Instr.slice 141 (.slice (some ⟨b, o, none⟩) n c) (some (.int .i64 (k : Int))) none none).run Tryz.prog w = .ok (.slice (subP b o k c) (n - k) (c - k)) w := tailT 141 Tryz.underlying141 elemN b o n c k hk w
theorem u64s_one (xs : List Nat) : ∀ u ∈ u64s xs, u.oneCell' = true := by
 intro u hu; obtain ⟨_, _, rfl⟩ := List.mem_map.1 hu; rfl
theorem splice_u64 (C : List Nat) (o : Nat) (ys : List Nat) : splice (u64s C) o (u64s ys) = u64s (over C o ys) := by
 simp [splice, over, u64s, List.map_append, List.map_take, List.map_drop]
theorem Spliced.blk {g o : Nat} {C ys : List Nat} {w w' : World} (h : Spliced g 253 (u64s C) o (u64s ys) w w') : Blk w' g (over C o ys) ∧ Keeps (fun k => k = g) w w' :=
 ⟨by unfold Blk; rw [h.1, splice_u64], h.2⟩
theorem VecOut.copied {w w1 w2 : World} {bz oz k n : Nat} {C zs ys : List Nat} (h : VecOut w w1 bz oz C zs k) (hw : Words WB ys) (hn : k + ys.length = n) (hC : oz + n ≤ C.length)
  (hs : Spliced bz 253 (u64s (over C oz zs)) (oz + k) (u64s ys) w1 w2) : VecOut w w2 bz oz C (zs ++ ys) n := by
 obtain ⟨hb, hk⟩ := hs.blk
 have hl := h.len
 refine ⟨by simp; omega, h.words.append hw, ?_, h.keep.trans hk (fun _ _ e => e)⟩
 rw [← hl, over_over C oz zs ys (by omega)] at hb
 exact hb
theorem VecOut.same {w w1 : World} {b o k n : Nat} {C zs xs : List Nat} (h : VecOut w w1 b o C zs k) (hz : Blk w b C) (hx : Vec w b o xs) (hw : Words WB xs) (hn : xs.length = n) (hk : k ≤ n) (hC : o + n ≤ C.length) : VecOut w w1 b o C (zs ++ xs.drop k) n := by
 have hl := h.len
 refine ⟨by simp; omega, h.words.append (hw.drop _), ?_, h.keep⟩
 have e : over C o (zs ++ xs.drop k) = over C o zs := by
  rw [← over_over C o zs (xs.drop k) (by simp; omega)]
  refine List.ext_getElem? fun i => ?_
  have hlo : (over C o zs).length = C.length := over_length _ _ _ (by omega)
  by_cases h1 : i < o + zs.length
  ·rw [over_get_lt _ _ _ _ h1 (by omega)]
  ·by_cases h2 : i < o + zs.length + (xs.drop k).length
   ·rw [over_get_in _ _ _ _ (by omega) h2 (by omega), over_get_ge _ _ _ _ (by omega) (by omega)]
    simp only [List.length_drop] at h2
    have hc := hx (i - o) (by omega)
    rw [show o + (i - o) = i by omega, hz.cell i (by omega)] at hc
    rw [List.getElem?_drop, List.getElem?_eq_getElem (by omega), List.getElem?_eq_getElem (by omega)]
    have hc' : C[i] = xs[i - o] := Int.ofNat_inj.1 (by simpa using hc)
    rw [hc']
    congr 2
    omega
   ·rw [over_get_ge _ _ _ _ (by omega) (by simp only [List.length_drop]; omega)]
 rw [e]; exact h.blk
end Go.Proofs.YthocmhkafgpgbaaGreatDoor
namespace Go.Proofs.YthocmhkafgpgbaaGreatDoor
open Go.RowKit
theorem VecOut.drew {w w' : World} {bz oz n : Nat} {C zs : List Nat} (h : VecOut w w' bz oz C zs n) : VecOut w w'.drew bz oz C zs n := ⟨h.len, h.words, h.blk, h.keep.drew⟩
theorem fitsTail {w W : World} {bz oz bx ox n k cz cx : Nat} {C zs xs : List Nat} (h : VecOut w W bz oz C zs k) (hz : Blk w bz C) (hx : Vec w bx ox xs) (hxn : xs.length = n) (hk : k ≤ n) (hC : oz + n ≤ C.length) (hs : bx ≠ bz) (hcz : n ≤ cz) (hcx : n ≤ cx) :
  CopyFits W (subP bz oz k cz) (subP bx ox k cx) (n - k) (n - k) bz (oz + k) (u64s (over C oz zs)) (u64s (xs.drop k)) (n - k) := by
 have hl := h.len
 refine ⟨by simp [hxn], (Nat.min_self _).symm, fun hp => ⟨subP_lt (by omega), _, subP_lt (by omega), fun j v hj => ?_⟩, ?_, u64s_one _⟩
 ·obtain ⟨hj', rfl⟩ := List.getElem?_eq_some_iff.1 hj
  simp only [List.length_map, List.length_drop] at hj'
  have := h.keep.cellS (hx (k + j) (by omega)) hs
  rw [Addr.add_lit, Nat.add_assoc, this]
  simp
 ·simp only [List.length_map, over_length _ _ _ (show oz + zs.length ≤ C.length by omega)]
  omega
theorem vw_add_more {B : Nat} {zs xs : List Nat} {i y : Nat} (hB : 0 < B) (hl : zs.length = i) (hi : i < xs.length) (h : val B zs + B ^ i = val B (xs.take i) + y) (hx : xs[i] = B - 1) : val B (zs ++ [0]) + B ^ (i + 1) = val B (xs.take (i + 1)) + y := by
 rw [val_snoc, val_take_succ xs i hi, hx, Nat.mul_zero, Nat.pow_succ, Nat.mul_sub_one]
 have : B ^ i ≤ B ^ i * B := Nat.le_mul_of_pos_right _ hB
 omega
theorem vw_add_end {B : Nat} {zs xs : List Nat} {i y : Nat} (hl : zs.length = i) (hi : i < xs.length) (h : val B zs + B ^ i = val B (xs.take i) + y) : val B (zs ++ [xs[i] + 1] ++ xs.drop (i + 1)) = val B xs + y := by
 rw [val_append, val_snoc, val_split xs i (by omega), val_drop_cons xs i hi, List.length_append, hl, List.length_singleton, Nat.mul_add, Nat.mul_add, Nat.mul_one, Nat.pow_succ, Nat.mul_assoc]
 omega
theorem vw0_add {xs : List Nat} {s y n : Nat} (h0 : 0 < xs.length) (hc : s + WB * 0 = xs[0] + y + 0) : val WB ([s] ++ xs.drop 1) + WB ^ n * 0 = val WB xs + y := by
 rw [val_append, val_one, List.length_singleton, Nat.pow_one, Nat.mul_zero]
 have e := val_drop_cons (B := WB) xs 0 h0
 rw [List.drop_zero] at e
 rw [e]
 simp only [Nat.zero_add]
 omega
set_option maxRecDepth 100000 in
set_option maxHeartbeats 1000000 in
theorem addVW_any (w : World) (bz oz cz bx ox cx n y : Nat) (C xs : List Nat) (hz : Blk w bz C) (hx : Vec w bx ox xs) (hxn : xs.length = n) (hC : oz + n ≤ C.length)
  (ax : bx ≠ bz ∨ ox = oz) (wx : Words WB xs) (wy : y < WB) (h0 : 0 < n) (hn : n ≤ 1000000) (hcz : n ≤ cz) (hcx : n ≤ cx) (hkx : Known w bx) :
  Calls Tryz.prog 298 #[.slice (some ⟨bz, oz, none⟩) n cz, .slice (some ⟨bx, ox, none⟩) n cx, .int .u64 y] w fun e w' =>
   ∃ (zs : List Nat) (c : Nat), e = .returned (.int .u64 ((c : Nat) : Int)) ∧ c ≤ 1 ∧ val WB zs + WB ^ n * c = val WB xs + y ∧ VecOut w w' bz oz C zs n := by
 have hx0 := hx 0 (by omega)
 rw [Nat.add_zero] at hx0
 have hz0 := hz.cell oz (by omega)
 have hf0 := hz.frozen oz
 have hn0 : ¬ n = 0 := by omega
 have wx0 := wx.get 0 (by omega)
 have hB := bitsAdd xs[0] y 0 wx0 wy (by omega)
 have hk1 := carW_le1 wx0 wy (show 0 ≤ 1 by omega)
 have hb1 := (VecOut.start (oz := oz) hz).snoc (C := C) (sumW xs[0] y 0) (sumW_lt _ _ _) (by omega)
 rw [Nat.add_zero] at hb1
 rcases (show carW xs[0] y 0 = 0 ∨ carW xs[0] y 0 = 1 by omega) with hk | hk
 ·rw [hk] at hB
  change ∀ w, Calls _ _ _ w (fun e w' => e = .returned (.tuple #[_, .int .u64 0]) ∧ w' = w) at hB
  have hB' := Lib.hid hB
  clear hB hk1
  replace hk := Lib.hid hk
  go_enter Tryz.func298, Tryz.ntmps298
  go_wp2_with fail
  refine (hB'.out _).mono ?_
  rintro e w1 ⟨rfl, hw1⟩
  obtain rfl := hw1.symm
  have hkz : Known (w.setCell ⟨bz, oz, none⟩ (.int .u64 (sumW xs[0] y 0 : Nat))).drew bz := ⟨_, _, (hb1).blk⟩
  by_cases hs : bx = bz
  ·subst hs
   obtain rfl := ax.resolve_left (fun h => h rfl)
   have hne : (binOp .neq 255 (.pointer (some ⟨bx, ox, none⟩)) (.pointer (some ⟨bx, ox, none⟩))).run Tryz.prog (w.setCell ⟨bx, ox, none⟩ (.int .u64 (sumW xs[0] y 0 : Nat))).drew = .ok (.bool false) (w.setCell ⟨bx, ox, none⟩ (.int .u64 (sumW xs[0] y 0 : Nat))).drew := by
    rw [wordNe _ _ _ hkz hkz]; simp
   have hfin := Lib.hid ((hb1).drew.same hz hx wx hxn (by omega) hC)
   replace hb1 := Lib.hid hb1
   go_wp2_with fail
   go_region
   go_wp2
   go_ret
   exact ⟨_, 0, rfl, by omega, by have hc := (sumW_car xs[0] y 0); rw [hk.out] at hc; exact vw0_add (by omega) hc, hfin.out⟩
  ·have hkx' : Known (w.setCell ⟨bz, oz, none⟩ (.int .u64 (sumW xs[0] y 0 : Nat))).drew bx := hkx.kept ((hb1).keep.blk _ (by obtain ⟨_, _, h⟩ := hkx; exact sizeOf_blk h) hs)
   have hne : (binOp .neq 255 (.pointer (some ⟨bz, oz, none⟩)) (.pointer (some ⟨bx, ox, none⟩))).run Tryz.prog (w.setCell ⟨bz, oz, none⟩ (.int .u64 (sumW xs[0] y 0 : Nat))).drew = .ok (.bool true) (w.setCell ⟨bz, oz, none⟩ (.int .u64 (sumW xs[0] y 0 : Nat))).drew := by
    rw [wordNe _ _ _ hkz hkx']; simp [show ¬ bz = bx from fun e => hs e.symm]
   have htz : ∀ W, (Instr.slice 140 (.slice (some ⟨bz, oz, none⟩) n cz) (some (.int .i64 (1))) none none).run Tryz.prog W = .ok (.slice (subP bz oz 1 cz) (n - 1) (cz - 1)) W := fun W => tailW bz oz n cz 1 (by omega) W
   have htx : ∀ W, (Instr.slice 140 (.slice (some ⟨bx, ox, none⟩) n cx) (some (.int .i64 (1))) none none).run Tryz.prog W = .ok (.slice (subP bx ox 1 cx) (n - 1) (cx - 1)) W := fun W => tailW bx ox n cx 1 (by omega) W
   have q := fitsTail (hb1).drew.drew hz hx hxn (show 1 ≤ n by omega) hC hs hcz hcx
   have hb1' := Lib.hid (hb1)
   clear hb1
   go_wp2_with fail
   go_region
   go_wp2_with fail
   go_region_law (refine step_copy_kept rfl (.tmp 40) (.tmp 42) 140 140 rfl 253 Tryz.underlying140 Tryz.infoWsize (subP bz oz 1 cz) (subP bx ox 1 cx) (n - 1) (cz - 1) (n - 1) (cx - 1) (by simp [Act.eval, Act.put]) (by simp [Act.eval, Act.put]) bz (oz + 1) (u64s (over C oz ([sumW xs[0] y 0]))) 253 hb1'.out.drew.drew.blk (u64s (xs.drop 1)) (n - 1) q ?_; intro w2 hsp)
   go_wp2
   go_ret
   exact ⟨_, 0, rfl, by omega, by have hc := (sumW_car xs[0] y 0); rw [hk.out] at hc; exact vw0_add (by omega) hc, hb1'.out.drew.drew.copied (wx.drop 1) (by simp; omega) hC hsp⟩
 ·rw [hk] at hB
  change ∀ w, Calls _ _ _ w (fun e w' => e = .returned (.tuple #[_, .int .u64 1]) ∧ w' = w) at hB
  have hB' := Lib.hid hB
  clear hB hk1
  have hv1 := (sumW_car xs[0] y 0)
  rw [hk] at hv1
  have hb1' := Lib.hid hb1
  clear hk hb1
  have hv1' := Lib.hid hv1
  clear hv1
  go_enter Tryz.func298, Tryz.ntmps298
  go_wp2_with fail
  refine (hB'.out _).mono ?_
  rintro e w1 ⟨rfl, hw1⟩
  obtain rfl := hw1.symm
  go_wp2_with fail
  go_loopw [9] (fun i wr => ∃ (k : Nat) (zs : List Nat), 1 ≤ k ∧ k ≤ n ∧ i = .int .i64 k ∧ val WB zs + WB ^ k = val WB (xs.take k) + y ∧ VecOut w wr bz oz C zs k) (fun i _ => n - (intOf i).toNat)
  case atStart =>
   refine ⟨1, [sumW xs[0] y 0], Nat.le_refl _, by omega, rfl, ?_, by simpa using hb1'.out⟩
   have e := val_take_succ (B := WB) xs 0 (by omega)
   rw [e, val_one]
   have := hv1'.out
   simp [val]
   omega
  case round =>
   obtain ⟨k, zs, hk1, hk, rfl, hval, hout⟩ := hrel
   clear hx0 hz0 hf0
   by_cases hlt : k < n
   ·have hxk := hout.read hz hx ax (by omega) k (by omega) (Nat.le_refl _)
    obtain ⟨u, hzk⟩ := hout.there (by omega)
    have hfk := hout.room (oz + k)
    have wxk := wx.get k (by omega)
    by_cases hmax : xs[k] = WB - 1
    ·have hm1 : ((xs[k] : Nat) : Int) = 18446744073709551615 := by rw [hmax]; rw [WB_eq]; rfl
     go_wp2_with fail
     go_roundw
     case rel =>
      refine ⟨k + 1, zs ++ [0], by omega, by omega, by go_num, vw_add_more WB_pos hout.len (by omega) hval hmax, ?_⟩
      have := hout.snoc (0) (by rw [WB_eq]; omega) (by omega)
      simpa [WB_eq] using this
     case measure => simp [intOf]; omega
    ·have hm1 : ((xs[k] : Nat) : Int) ≠ 18446744073709551615 := by have := WB_eq; omega
     have hb1 : VecOut w (wr.setCell ⟨bz, oz + k, none⟩ (.int .u64 ((xs[k] : Nat) + (1 : Int)))) bz oz C (zs ++ [xs[k] + 1]) (k + 1) := by
      have := hout.snoc (xs[k] + 1) (by omega) (by omega)
      rwa [show ((xs[k] + 1 : Nat) : Int) = (xs[k] : Nat) + (1 : Int) by omega] at this
     have ew : IntKind.u64.wrap ((xs[k] : Nat) + (1 : Int)) = (xs[k] : Nat) + (1 : Int) := by
      rw [show ((xs[k] : Nat) + (1 : Int)) = ((xs[k] + 1 : Nat) : Int) by omega]; exact wrapW (by omega)
     have ei : IntKind.i64.wrap ((k : Int) + 1) = (k : Int) + 1 := by simp [IntKind.wrap, IntKind.bits, IntKind.signed]; omega
     have hval' := Lib.hid hval
     clear hval
     have hkz : Known ((wr.setCell ⟨bz, oz + k, none⟩ (.int .u64 ((xs[k] : Nat) + (1 : Int))))).drew bz := ⟨_, _, (hb1).blk⟩
     by_cases hs : bx = bz
     ·subst hs
      obtain rfl := ax.resolve_left (fun h => h rfl)
      have hne : (binOp .neq 255 (.pointer (some ⟨bx, ox, none⟩)) (.pointer (some ⟨bx, ox, none⟩))).run Tryz.prog ((wr.setCell ⟨bx, ox + k, none⟩ (.int .u64 ((xs[k] : Nat) + (1 : Int))))).drew = .ok (.bool false) ((wr.setCell ⟨bx, ox + k, none⟩ (.int .u64 ((xs[k] : Nat) + (1 : Int))))).drew := by
       rw [wordNe _ _ _ hkz hkz]; simp
      have hfin := Lib.hid ((hb1).drew.same hz hx wx hxn (by omega) hC)
      replace hb1 := Lib.hid hb1
      go_wp2_with fail
      go_region
      go_wp2
      go_ret
      exact ⟨_, 0, rfl, by omega, by have := vw_add_end hout.len (show k < xs.length by omega) hval'.out; omega, hfin.out⟩
     ·have hkx' : Known ((wr.setCell ⟨bz, oz + k, none⟩ (.int .u64 ((xs[k] : Nat) + (1 : Int))))).drew bx := hkx.kept ((hb1).keep.blk _ (by obtain ⟨_, _, h⟩ := hkx; exact sizeOf_blk h) hs)
      have hne : (binOp .neq 255 (.pointer (some ⟨bz, oz, none⟩)) (.pointer (some ⟨bx, ox, none⟩))).run Tryz.prog ((wr.setCell ⟨bz, oz + k, none⟩ (.int .u64 ((xs[k] : Nat) + (1 : Int))))).drew = .ok (.bool true) ((wr.setCell ⟨bz, oz + k, none⟩ (.int .u64 ((xs[k] : Nat) + (1 : Int))))).drew := by
       rw [wordNe _ _ _ hkz hkx']; simp [show ¬ bz = bx from fun e => hs e.symm]
      have htz : ∀ W, (Instr.slice 140 (.slice (some ⟨bz, oz, none⟩) n cz) (some (.int .i64 (k + 1))) none none).run Tryz.prog W = .ok (.slice (subP bz oz (k + 1) cz) (n - (k + 1)) (cz - (k + 1))) W := fun W => tailW bz oz n cz (k + 1) (by omega) W
      have htx : ∀ W, (Instr.slice 140 (.slice (some ⟨bx, ox, none⟩) n cx) (some (.int .i64 (k + 1))) none none).run Tryz.prog W = .ok (.slice (subP bx ox (k + 1) cx) (n - (k + 1)) (cx - (k + 1))) W := fun W => tailW bx ox n cx (k + 1) (by omega) W
      have q := fitsTail (hb1).drew.drew hz hx hxn (show (k + 1) ≤ n by omega) hC hs hcz hcx
      have hb1' := Lib.hid (hb1)
      clear hb1
      go_wp2_with fail
      go_region
      go_wp2_with fail
      go_region_law (refine step_copy_kept rfl (.tmp 69) (.tmp 73) 140 140 rfl 253 Tryz.underlying140 Tryz.infoWsize (subP bz oz (k + 1) cz) (subP bx ox (k + 1) cx) (n - (k + 1)) (cz - (k + 1)) (n - (k + 1)) (cx - (k + 1)) (by simp [Act.eval, Act.put]) (by simp [Act.eval, Act.put]) bz (oz + (k + 1)) (u64s (over C oz (zs ++ [xs[k] + 1]))) 253 hb1'.out.drew.drew.blk (u64s (xs.drop (k + 1))) (n - (k + 1)) q ?_; intro w2 hsp)
      go_wp2
      go_ret
      exact ⟨_, 0, rfl, by omega, by have := vw_add_end hout.len (show k < xs.length by omega) hval'.out; omega, hb1'.out.drew.drew.copied (wx.drop (k + 1)) (by simp; omega) hC hsp⟩
   ·obtain rfl : k = n := by omega
    go_wp2_with fail
    go_ret
    refine ⟨zs, 1, rfl, Nat.le_refl _, ?_, hout⟩
    rw [List.take_of_length_le (by omega)] at hval
    omega
end Go.Proofs.YthocmhkafgpgbaaGreatDoor
namespace Go.Proofs.YthocmhkafgpgbaaGreatDoor
open Go.RowKit
theorem digs_trim {xs : List Nat} (hw : Words WB xs) (i : Nat) (hi : i ≤ xs.length) (hz : ∀ j (h : j < xs.length), i ≤ j → xs[j] = 0) (hn : i = 0 ∨ ∃ h : i - 1 < xs.length, xs[i - 1] ≠ 0) : digs WB (val WB xs) = xs.take i := by
 have e : xs = xs.take i ++ List.replicate (xs.length - i) 0 := by
  refine List.ext_getElem (by simp; omega) fun j h1 h2 => ?_
  by_cases hj : j < i
  ·rw [List.getElem_append_left (by simp; omega)]; simp
  ·rw [List.getElem_append_right (by simp; omega)]; simp [hz j h1 (by omega)]
 have hv : val WB xs = val WB (xs.take i) := by
  conv => lhs; rw [e]
  exact val_zeros _ _
 rw [hv]
 refine digs_val WB_one (hw.take i) fun hne => ?_
 rcases hn with rfl | ⟨h, hn⟩
 ·simp at hne
 ·rw [List.getLast_eq_getElem]
  simp only [List.length_take, List.getElem_take]
  have : min i xs.length - 1 = i - 1 := by omega
  simpa [this] using hn
theorem NatRow.head {w : World} {base g : Nat} {C xs : List Nat} {n : Nat} (hb : base ≤ g) (hC : Blk w g C) (hw : Words WB C) (h0 : 0 < C.length) (hl : C.length ≤ 1000000) (hn : n ≤ C.length) (hx : C.take n = xs) : NatRow w base (.slice (some ⟨g, 0, none⟩) n C.length) xs := by
 have e : xs.length = n := by rw [← hx]; simp; omega
 subst e
 exact .inr ⟨g, C, rfl, hb, hC, hw, hx, h0, hl⟩
set_option maxRecDepth 100000 in
theorem norm_row (w : World) (base g n : Nat) (C : List Nat) (hb : base ≤ g) (hC : Blk w g C) (hw : Words WB C) (hn : n ≤ C.length) (h0 : 0 < C.length) (hl : C.length ≤ 1000000) :
  Calls Tryz.prog 248 #[.slice (some ⟨g, 0, none⟩) n C.length] w fun e w' => ∃ m : Nat, e = .returned (.slice (some ⟨g, 0, none⟩) m C.length) ∧ w' = w ∧ m ≤ n ∧ NatAt w base (.slice (some ⟨g, 0, none⟩) m C.length) (val WB (C.take n)) := by
 go_enter Tryz.func248, Tryz.ntmps248
 go_wp2_with fail
 go_loopw [3] (fun i wr => ∃ k : Nat, k ≤ n ∧ i = .int .i64 k ∧ wr = w ∧ ∀ j (h : j < C.length), k ≤ j → j < n → C[j] = 0) (fun i _ => (intOf i).toNat)
 case atStart => exact ⟨n, Nat.le_refl _, rfl, rfl, fun j _ h1 h2 => by omega⟩
 case round =>
  obtain ⟨k, hk, rfl, rfl, hz⟩ := hrel
  by_cases hk0 : k = 0
  ·subst hk0
   go_wp2_with fail
   go_ret
   refine ⟨0, rfl, rfl, Nat.zero_le _, ?_⟩
   refine NatRow.head hb hC hw h0 hl (Nat.zero_le _) ?_
   rw [digs_trim (hw.take n) 0 (Nat.zero_le _) (fun j h _ => ?_) (.inl rfl)]
   ·simp
   ·simp only [List.length_take] at h
    rw [List.getElem_take]; exact hz j (by omega) (Nat.zero_le _) (by omega)
  ·have hc := hC.cell (k - 1) (by omega)
   have e1 : (k : Int) - 1 = ((k - 1 : Nat) : Int) := by omega
   have hk1 : (0 : Int) < k := by omega
   obtain ⟨k1, hk1'⟩ : ∃ k1, k - 1 = k1 := ⟨_, rfl⟩
   by_cases hx : C[k - 1] = 0
   ·rw [hx] at hc
    rw [hk1'] at hc e1
    go_wp2_with fail
    go_roundw
    case rel =>
     refine ⟨k1, by omega, by go_num, by simp, fun j h h1 h2 => ?_⟩
     by_cases e : j = k - 1
     ·subst e; exact hx
     ·exact hz j h (by omega) h2
    case measure => simp [intOf]; omega
   ·have hx' : ¬ ((C[k - 1] : Nat) : Int) = 0 := by omega
    generalize hd : C[k - 1] = d at *
    rw [hk1'] at hc e1
    go_wp2_with fail
    go_ret
    refine ⟨k, rfl, rfl, hk, ?_⟩
    refine NatRow.head hb hC hw h0 hl (by omega) ?_
    rw [digs_trim (hw.take n) k (by simp; omega) (fun j h h1 => ?_) (.inr ⟨by simp; omega, ?_⟩)]
    ·rw [List.take_take, Nat.min_eq_left hk]
    ·rw [List.getElem_take]; omega
    ·simp only [List.length_take] at h
     rw [List.getElem_take]; exact hz j (by omega) h1 (by omega)
theorem norm_nil (w : World) : Calls Tryz.prog 248 #[.slice none 0 0] w fun e w' => e = .returned (.slice none 0 0) ∧ w' = w := by
 go_enter Tryz.func248, Tryz.ntmps248
 go_wp2_with fail
 go_loopw [3] (fun i wr => i = .int .i64 0 ∧ wr = w) (fun i _ => 0)
 case atStart => exact ⟨rfl, rfl⟩
 case round =>
  obtain ⟨rfl, rfl⟩ := hrel
  go_wp2_with fail
  go_ret
  exact ⟨rfl, rfl⟩
structure NatOut (w w' : World) (base : Nat) (zv v' : Value) (xs : List Nat) : Prop where
 row : NatRow w' base v' xs
 keep : Keeps (fun k => zv.ownBlock = some k) w w'
 own : ∀ k, v'.ownBlock = some k → zv.ownBlock = some k ∨ w.heap.size ≤ k
structure Made (w w' : World) (base n : Nat) (zv : Value) (g : Nat) (C : List Nat) : Prop where
 fit : n ≤ C.length
 blk : Blk w' g C
 words : Words WB C
 base : base ≤ g
 big : C.length ≤ 1000000
 keep : Keeps (fun _ => False) w w'
 own : zv.ownBlock = some g ∨ w.heap.size ≤ g
theorem made_zeros (c : Nat) : madeCells #[Value.int .u64 0] c = (u64s (List.replicate c 0)).toArray := by
 refine Array.ext (by simp [madeCells]) fun i h1 h2 => ?_
 simp [madeCells, Nat.mod_one]
theorem Made.drew {w w1 : World} {base n : Nat} {zv : Value} {g : Nat} {C : List Nat} (h : Made w w1 base n zv g C) : Made w w1.drew base n zv g C := ⟨h.fit, h.blk, h.words, h.base, h.big, h.keep.drew, h.own⟩
theorem blk_zeros (w : World) (c : Nat) : Blk (w.alloc (.cells (madeCells #[Value.int .u64 0] c) 253 (0, 0))) w.heap.size (List.replicate c 0) := by
 unfold Blk
 rw [blk_new, made_zeros]
theorem makeRun (T : TypeId) (hT : Tryz.prog.underlying T = some (.slice 253)) (l c : Nat) (hlc : l ≤ c) (hc : c ≤ 1000000) (w : World) :
  (Instr.makeSlice T (.int .i64 (l : Int)) (.int .i64 (c : Int))).run Tryz.prog w = .ok (.slice (some ⟨w.heap.size, 0, none⟩) l c) (w.alloc (.cells (madeCells #[Value.int .u64 0] c) 253 (0, 0))) := by
 obtain ⟨i, hi, hzz⟩ := Option.map_eq_some_iff.1 Tryz.infoW
 simp only [Prod.mk.injEq] at hzz
 obtain ⟨hz, hs, hb⟩ := hzz
 have hr := run_make (P := Tryz.prog) w T 253 i (.int .u64 0) hT hi hz .i64 .i64 l c (by omega) (by omega) (by rw [hb]; omega) (by omega)
 simp only [Int.toNat_natCast, hs, Nat.mul_one] at hr
 exact hr
theorem makeN (l c : Nat) (hlc : l ≤ c) (hc : c ≤ 1000000) (w : World) :
  (Instr.makeSlice 141 (.int .i64 (l : Int)) (.int .i64 (c : Int))).run Tryz.prog w = .ok (.slice (some ⟨w.heap.size, 0, none⟩) l c) (w.alloc (.cells (madeCells #[Value.int .u64 0] c) 253 (0, 0))) := makeRun 141 Tryz.underlying141 l c hlc hc w
theorem makeN4 (n : Nat) (hc : n ≤ 100000) (w : World) :
  (Instr.makeSlice 141 (.int .i64 (n : Int)) (.int .i64 ((n : Int) + 4))).run Tryz.prog w = .ok (.slice (some ⟨w.heap.size, 0, none⟩) n (n + 4 : Nat)) (w.alloc (.cells (madeCells #[Value.int .u64 0] (n + 4)) 253 (0, 0))) := makeN n (n + 4) (by omega) (by omega) w
theorem makeN1 (w : World) :
  (Instr.makeSlice 141 (.int .i64 1) (.int .i64 1)).run Tryz.prog w = .ok (.slice (some ⟨w.heap.size, 0, none⟩) 1 1) (w.alloc (.cells (madeCells #[Value.int .u64 0] 1) 253 (0, 0))) := makeN 1 1 (by omega) (by omega) w
theorem Made.new {w : World} {base n c : Nat} {zv : Value} (h : n ≤ c) (hc : c ≤ 1000000) (hB : base ≤ w.heap.size) : Made w (w.alloc (.cells (madeCells #[Value.int .u64 0] c) 253 (0, 0))) base n zv w.heap.size (List.replicate c 0) :=
 ⟨by simpa using h, blk_zeros w c, Words.replicate WB_pos c, hB, by simpa using hc, (Keeps.refl _ _).alloc _, .inr (Nat.le_refl _)⟩
set_option maxRecDepth 100000 in
theorem make_any (w : World) (base n : Nat) (zv : Value) (xs : List Nat) (h : NatRow w base zv xs) (hn : 0 < n) (hn' : n ≤ 100000) (hB : base ≤ w.heap.size) :
  Calls Tryz.prog 201 #[zv, .int .i64 n] w fun e w' => ∃ g C, e = .returned (.slice (some ⟨g, 0, none⟩) n C.length) ∧ Made w w' base n zv g C := by
 have hm := makeN4 n hn' w
 have hm1 := makeN1 w
 have t3 : ¬ (n : Int) + 4 < 0 := by omega
 rcases h with ⟨rfl, rfl⟩ | ⟨g, C, rfl, hb, hC, hw, ht, h0, hl⟩
 ·have t1 : ¬ (n : Int) ≤ 0 := by omega
  by_cases hn1 : n = 1
  ·subst hn1
   go_enter Tryz.func201, Tryz.ntmps201
   go_wp2_with fail
   go_ret
   exact ⟨w.heap.size, List.replicate 1 0, by simp, .new (by omega) (by omega) hB⟩
  ·have t2 : ¬ (n : Int) = 1 := by omega
   go_enter Tryz.func201, Tryz.ntmps201
   go_wp2_with fail
   go_ret
   exact ⟨w.heap.size, List.replicate (n + 4) 0, by simp, .new (by omega) (by omega) hB⟩
 ·by_cases hc : n ≤ C.length
  ·have t1 : (n : Int) ≤ C.length := by omega
   go_enter Tryz.func201, Tryz.ntmps201
   go_wp2_with fail
   go_ret
   exact ⟨g, C, rfl, hc, hC, hw, hb, hl, Keeps.refl _ _, .inl rfl⟩
  ·have t1 : ¬ (n : Int) ≤ C.length := by omega
   by_cases hn1 : n = 1
   ·omega
   ·have t2 : ¬ (n : Int) = 1 := by omega
    go_enter Tryz.func201, Tryz.ntmps201
    go_wp2_with fail
    go_ret
    exact ⟨w.heap.size, List.replicate (n + 4) 0, by simp, .new (by omega) (by omega) hB⟩
theorem make_zero (w : World) (base : Nat) (zv : Value) (xs : List Nat) (h : NatRow w base zv xs) :
  Calls Tryz.prog 201 #[zv, .int .i64 0] w fun e w' => ∃ v', e = .returned v' ∧ w' = w ∧ NatRow w base v' [] ∧ v'.ownBlock = zv.ownBlock := by
 rcases h with ⟨rfl, rfl⟩ | ⟨g, C, rfl, hb, hC, hw, ht, h0, hl⟩
 ·go_enter Tryz.func201, Tryz.ntmps201
  go_wp2_with fail
  go_ret
  exact ⟨_, rfl, rfl, .nil _ _, rfl⟩
 ·go_enter Tryz.func201, Tryz.ntmps201
  go_wp2_with fail
  go_ret
  exact ⟨_, rfl, rfl, .head hb hC hw h0 hl (Nat.zero_le _) (by simp), rfl⟩
theorem NatRow.empty {w : World} {base : Nat} {zv : Value} {xs : List Nat} (h : NatRow w base zv xs) : ∃ p n c, zv = .slice p n c ∧ NatRow w base (.slice p 0 c) [] := by
 rcases h with ⟨rfl, rfl⟩ | ⟨g, C, rfl, hb, hC, hw, ht, h0, hl⟩
 ·exact ⟨none, 0, 0, rfl, .nil _ _⟩
 ·exact ⟨_, _, _, rfl, .head hb hC hw h0 hl (Nat.zero_le _) (by simp)⟩
theorem Made.out {w w1 w2 : World} {base n : Nat} {zv : Value} {g : Nat} {C zs : List Nat} (h : Made w w1 base n zv g C) (hn : 0 < n) (hz : VecOut w1 w2 g 0 C zs n) :
  NatOut w w2 base zv (.slice (some ⟨g, 0, none⟩) n C.length) zs ∧ Blk w2 g (over C 0 zs) ∧ Words WB (over C 0 zs) ∧ (over C 0 zs).length = C.length ∧ (over C 0 zs).take n = zs := by
 have hf := h.fit
 have hzl := hz.len
 have hl : (over C 0 zs).length = C.length := over_length _ _ _ (by omega)
 have hw := over_words (o := 0) h.words hz.words
 have ht : (over C 0 zs).take n = zs := by
  unfold over
  simp only [List.take_zero, List.nil_append, Nat.zero_add]
  rw [List.take_append_of_le_length (by omega), List.take_of_length_le (by omega)]
 refine ⟨⟨?_, ?_, ?_⟩, hz.blk, hw, hl, ht⟩
 ·have := NatRow.head h.base hz.blk hw (by omega) (by rw [hl]; exact h.big) (n := n) (by omega) ht
  rwa [hl] at this
 ·refine (h.keep.mono (fun _ _ x => x.elim)).trans hz.keep fun k hk e => ?_
  subst e
  rcases h.own with h1 | h1
  ·exact h1
  ·omega
 ·intro k hk
  simp only [Value.ownBlock, Option.some.injEq] at hk
  subst hk
  exact h.own
end Go.Proofs.YthocmhkafgpgbaaGreatDoor
namespace Go.Proofs.YthocmhkafgpgbaaGreatDoor
open Go.RowKit
def shrN (x t : Nat) : Nat := x / 2 ^ t
def shlN (x s : Nat) : Nat := x * 2 ^ s % WB
theorem shlN_lt (x s : Nat) : shlN x s < WB := Nat.mod_lt _ WB_pos
theorem shrN_lt {x : Nat} (h : x < WB) (t : Nat) : shrN x t < WB := Nat.lt_of_le_of_lt (Nat.div_le_self _ _) h
theorem shrI {t : Nat} (h : t ≤ 64) (x : Nat) : (x : Int) / 2 ^ min t 64 = (shrN x t : Int) := by
 rw [Nat.min_eq_left h]; simp [shrN]
theorem shrI' (t x : Nat) : (x : Int) / 2 ^ t = (shrN x t : Int) := by simp [shrN]
theorem shlI' (s x : Nat) : IntKind.u64.wrap ((x : Int) * 2 ^ s) = (shlN x s : Int) := by
 rw [IntKind.wrap_u64]; simp [shlN, WB_eq]
theorem shlI {s : Nat} (h : s ≤ 64) (x : Nat) : IntKind.u64.wrap ((x : Int) * 2 ^ min s 64) = (shlN x s : Int) := by
 rw [Nat.min_eq_left h, IntKind.wrap_u64]; simp [shlN, WB_eq]
theorem orI {a b c : Nat} (ha : a < WB) (hb : b < WB) (h : a ||| b = c) : bits .or .u64 (a : Int) (b : Int) = (c : Int) := by
 rw [← h]; exact bits_or_u64_nat a b ha hb
structure TopOut (w w' : World) (bz oz : Nat) (C zs : List Nat) (i : Nat) : Prop where
 blk : Blk w' bz (over C (oz + i) (zs.drop i))
 keep : Keeps (fun k => k = bz) w w'
theorem TopOut.start {w : World} {bz oz n : Nat} {C zs : List Nat} (h : Blk w bz C) (hn : zs.length = n) : TopOut w w bz oz C zs n := ⟨by rw [List.drop_of_length_le (by omega), over_nil]; exact h, Keeps.refl _ _⟩
theorem TopOut.set {w w' : World} {bz oz i d : Nat} {C zs : List Nat} (h : TopOut w w' bz oz C zs (i + 1)) (hd : zs[i]? = some d) (hl : oz + zs.length ≤ C.length) : TopOut w (w'.setCell ⟨bz, oz + i, none⟩ (.int .u64 (d : Int))) bz oz C zs i := by
 obtain ⟨hi, rfl⟩ := List.getElem?_eq_some_iff.1 hd
 refine ⟨?_, h.keep.setCell _ _ (fun _ => rfl)⟩
 rw [← over_top C oz zs i hi hl]
 have hb := h.blk
 rw [← Nat.add_assoc] at hb
 exact hb.set _ _
theorem TopOut.drew {w w' : World} {bz oz i : Nat} {C zs : List Nat} (h : TopOut w w' bz oz C zs i) : TopOut w w'.drew bz oz C zs i := ⟨h.blk, h.keep.drew⟩
theorem TopOut.drewN {w w' : World} {bz oz i : Nat} {C zs : List Nat} (h : TopOut w w' bz oz C zs i) (k : Nat) : TopOut w (w'.drewN k) bz oz C zs i := ⟨h.blk, h.keep.drewN k⟩
theorem TopOut.read {w w' : World} {bz oz i : Nat} {C zs : List Nat} (h : TopOut w w' bz oz C zs i) (hz : Blk w bz C) {bx ox : Nat} {xs : List Nat} (hx : Vec w bx ox xs) (ha : bx ≠ bz ∨ ox = oz) (hl : oz + i ≤ C.length) (j : Nat) (hj : j < xs.length) (hji : j < i) :
  w'.cell? ⟨bx, ox + j, none⟩ = some (.int .u64 (xs[j] : Int)) := by
 by_cases e : bx = bz
 ·subst e
  obtain rfl := ha.resolve_left (fun h => h rfl)
  have h1 := hx j hj
  rw [cellOf hz] at h1
  rw [cellOf h.blk]
  have h2 : (over C (ox + i) (zs.drop i))[ox + j]? = C[ox + j]? := over_get_lt _ _ _ _ (by omega) hl
  simpa [u64s, h2] using h1
 ·exact h.keep.cellS (hx j hj) e
theorem TopOut.there {w w' : World} {bz oz i : Nat} {C zs : List Nat} (h : TopOut w w' bz oz C zs i) (hl : oz + zs.length ≤ C.length) (hi : i ≤ zs.length) (j : Nat) (hj : j < zs.length) : ∃ u, w'.cell? ⟨bz, oz + j, none⟩ = some u := by
 have : oz + j < (over C (oz + i) (zs.drop i)).length := by rw [over_length _ _ _ (by simp; omega)]; omega
 exact ⟨_, h.blk.cell _ this⟩
theorem TopOut.done {w w' : World} {bz oz n : Nat} {C zs : List Nat} (h : TopOut w w' bz oz C zs 0) (hw : Words WB zs) (hn : zs.length = n) : VecOut w w' bz oz C zs n := ⟨hn, hw, by have := h.blk; simpa using this, h.keep⟩
end Go.Proofs.YthocmhkafgpgbaaGreatDoor
