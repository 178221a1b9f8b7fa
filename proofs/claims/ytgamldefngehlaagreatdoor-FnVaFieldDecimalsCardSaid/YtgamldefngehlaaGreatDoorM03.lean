/- Parts of the walk. -/
import Derived.Test.YtgamldefngehlaaGreatDoorM01
import Derived.StillTailTactics
import Derived.Deep.RegionLaw
import Derived.RegionTactic
import Derived.ChangeAlike
set_option linter.unusedVariables false
set_option linter.unusedSimpArgs false
namespace Go.Proofs.YtgamldefngehlaaGreatDoor
open Go.RowKit
def macL (x y c : Nat) : Nat := (x * y + c) % WB
def macH (x y c : Nat) : Nat := (x * y + c) / WB
theorem macL_lt (x y c : Nat) : macL x y c < WB := Nat.mod_lt _ WB_pos
theorem mac_lt {x y c : Nat} (hx : x < WB) (hy : y < WB) (hc : c < WB) : x * y + c < WB * WB := by
 have a : x * y ≤ (WB - 1) * y := Nat.mul_le_mul_right y (by omega)
 have b : (WB - 1) * y ≤ (WB - 1) * (WB - 1) := Nat.mul_le_mul_left _ (by omega)
 have c' : WB * WB = (WB - 1) * (WB - 1) + (WB - 1) + WB := by
  have := WB_pos
  obtain ⟨k, hk⟩ : ∃ k, WB = k + 1 := ⟨WB - 1, by omega⟩
  rw [hk]
  simp only [Nat.add_sub_cancel, Nat.add_mul, Nat.mul_add, Nat.one_mul, Nat.mul_one]
  try omega
 omega
theorem macH_lt {x y c : Nat} (hx : x < WB) (hy : y < WB) (hc : c < WB) : macH x y c < WB := by
 unfold macH
 rw [Nat.div_lt_iff_lt_mul WB_pos]
 exact mac_lt hx hy hc
theorem mac_eq (x y c : Nat) : macL x y c + WB * macH x y c = x * y + c := Nat.mod_add_div _ _
theorem mac_parts {x y c : Nat} (hc : c < WB) : sumW (x * y % WB) c 0 = macL x y c ∧ x * y / WB + carW (x * y % WB) c 0 = macH x y c := by
 unfold sumW carW macL macH
 generalize x * y = p
 have h := Nat.div_add_mod p WB
 constructor
 ·rw [Nat.add_zero, Nat.mod_add_mod]
 ·rw [Nat.add_zero]
  conv => rhs; rw [← h, Nat.add_assoc, Nat.mul_add_div WB_pos]
theorem mac2_eq (y m x c : Nat) : sumW (macL y m x) c 0 + WB * (carW (macL y m x) c 0 + macH y m x) = x + y * m + c := by
 have h1 := sumW_car (macL y m x) c 0
 have h2 := mac_eq y m x
 rw [Nat.mul_add]
 omega
theorem mac2_lt {y m x c : Nat} (hy : y < WB) (hm : m < WB) (hx : x < WB) (hc : c < WB) : carW (macL y m x) c 0 + macH y m x < WB := by
 have h := mac2_eq y m x c
 have h1 : y * m ≤ (WB - 1) * (WB - 1) := Nat.mul_le_mul (by omega) (by omega)
 have h2 : WB * WB = (WB - 1) * (WB - 1) + 2 * (WB - 1) + 1 := by
  have := WB_pos
  obtain ⟨k, hk⟩ : ∃ k, WB = k + 1 := ⟨WB - 1, by omega⟩
  rw [hk]
  simp only [Nat.add_sub_cancel, Nat.add_mul, Nat.mul_add, Nat.one_mul, Nat.mul_one]
  omega
 have h3 : WB * (carW (macL y m x) c 0 + macH y m x) < WB * WB := by omega
 exact Nat.lt_of_mul_lt_mul_left h3
theorem mulWW_any (x y : Nat) (hx : x < WB) (hy : y < WB) (w : World) :
  Calls Tryz.prog 312 #[.int .u64 x, .int .u64 y] w fun e w' => e = .returned (.tuple #[.int .u64 (macH x y 0 : Nat), .int .u64 (macL x y 0 : Nat)]) ∧ w' = w := by
 have e1 := wrapW hx
 have e2 := wrapW hy
 have e3 := wrapW (macL_lt x y 0)
 have e4 := wrapW (macH_lt hx hy WB_pos)
 have hP := Lib.hid (bitsMul x y hx hy w)
 have hl : (x * y % WB : Nat) = macL x y 0 := rfl
 have hh : (x * y / WB : Nat) = macH x y 0 := rfl
 rw [hl, hh] at hP
 clear hl hh hx hy
 go_enter Tryz.func312, Tryz.ntmps312
 go_wp2_with fail
 refine hP.out.mono ?_
 rintro e w' ⟨rfl, rfl⟩
 go_wp2
 go_ret2
 exact ⟨rfl, rfl⟩
theorem mulAddWWW_any (x y c : Nat) (hx : x < WB) (hy : y < WB) (hc : c < WB) (w : World) :
  Calls Tryz.prog 346 #[.int .u64 x, .int .u64 y, .int .u64 c] w fun e w' => e = .returned (.tuple #[.int .u64 (macH x y c : Nat), .int .u64 (macL x y c : Nat)]) ∧ w' = w := by
 have e1 := wrapW hx
 have e2 := wrapW hy
 have e5 := wrapW hc
 have e3 := wrapW (macL_lt x y c)
 have hm := wrapW (macH_lt hx hy hc)
 obtain ⟨p1, p2⟩ := mac_parts (x := x) (y := y) hc
 have hlo : x * y % WB < WB := Nat.mod_lt _ WB_pos
 have hP := Lib.hid (bitsMul x y hx hy w)
 have hQ := Lib.hid (bitsAdd (x * y % WB) c 0 hlo hc (by omega) w)
 rw [← p2] at hm ⊢
 rw [p1] at hQ
 generalize x * y % WB = lo at *
 generalize x * y / WB = hi at *
 generalize carW lo c 0 = k at *
 clear p1 p2 hx hy hc hlo
 simp only [Int.natCast_add] at hm ⊢
 go_enter Tryz.func346, Tryz.ntmps346
 go_wp2_with fail
 refine hP.out.mono ?_
 rintro e w' ⟨rfl, rfl⟩
 go_wp2_with fail
 refine hQ.out.mono ?_
 rintro e w' ⟨rfl, rfl⟩
 go_wp2
 go_ret2
 exact ⟨rfl, rfl⟩
set_option maxRecDepth 100000 in
theorem mulAddVWW_g_any (w : World) (bz oz cz bx ox cx n y r : Nat) (C xs : List Nat) (hz : Blk w bz C) (hx : Vec w bx ox xs) (hxn : xs.length = n) (hC : oz + n ≤ C.length)
  (ax : bx ≠ bz ∨ ox = oz) (wx : Words WB xs) (wy : y < WB) (wr_ : r < WB) (hn : n ≤ 1000000) :
  Calls Tryz.prog 328 #[.slice (some ⟨bz, oz, none⟩) n cz, .slice (some ⟨bx, ox, none⟩) n cx, .int .u64 y, .int .u64 r] w fun e w' =>
   ∃ (zs : List Nat) (c : Nat), e = .returned (.int .u64 ((c : Nat) : Int)) ∧ c < WB ∧ val WB zs + WB ^ n * c = val WB xs * y + r ∧ VecOut w w' bz oz C zs n := by
 go_enter Tryz.func328, Tryz.ntmps328
 go_wp2_with fail
 go_loopw [8, 19] (fun c i wr => ∃ (k : Nat) (zs : List Nat) (cc : Nat), k ≤ n ∧ i = .int .i64 k ∧ c = .int .u64 (cc : Nat) ∧ cc < WB ∧ val WB zs + WB ^ k * cc = val WB (xs.take k) * y + r ∧ VecOut w wr bz oz C zs k) (fun _ i _ => n - (intOf i).toNat)
 case atStart => exact ⟨0, [], r, Nat.zero_le _, rfl, rfl, wr_, by simp [val], .start hz⟩
 case round =>
  obtain ⟨k, zs, cc, hk, rfl, rfl, hcc, hval, hout⟩ := hrel
  by_cases hlt : k < n
  ·have hxk := hout.read hz hx ax (by omega) k (by omega) (Nat.le_refl _)
   obtain ⟨u, hzk⟩ := hout.there (by omega)
   have hfk := hout.room (oz + k)
   have wxk := wx.get k (by omega)
   go_wp2_with fail
   refine (mulAddWWW_any _ _ _ wxk wy hcc _).mono ?_
   rintro e w' ⟨rfl, rfl⟩
   go_wp2_with fail
   go_roundw
   case rel =>
    refine ⟨k + 1, zs ++ [macL xs[k] y cc], macH xs[k] y cc, by omega, by go_num, rfl, macH_lt wxk wy hcc, ?_, hout.snoc _ (macL_lt _ _ _) (by omega)⟩
    rw [val_take_succ xs k (by omega)]
    exact val_step_mul hout.len hval (mac_eq _ _ _)
   case measure => simp [intOf]; omega
  ·obtain rfl : k = n := by omega
   go_wp2_with fail
   go_ret
   refine ⟨zs, cc, rfl, hcc, ?_, hout⟩
   rwa [List.take_of_length_le (by omega)] at hval
theorem mulAddVWW_any (w : World) (bz oz cz bx ox cx n y r : Nat) (C xs : List Nat) (hz : Blk w bz C) (hx : Vec w bx ox xs) (hxn : xs.length = n) (hC : oz + n ≤ C.length)
  (ax : bx ≠ bz ∨ ox = oz) (wx : Words WB xs) (wy : y < WB) (wr_ : r < WB) (hn : n ≤ 1000000) :
  Calls Tryz.prog 303 #[.slice (some ⟨bz, oz, none⟩) n cz, .slice (some ⟨bx, ox, none⟩) n cx, .int .u64 y, .int .u64 r] w fun e w' =>
   ∃ (zs : List Nat) (c : Nat), e = .returned (.int .u64 ((c : Nat) : Int)) ∧ c < WB ∧ val WB zs + WB ^ n * c = val WB xs * y + r ∧ VecOut w w' bz oz C zs n := by
 have hP := Lib.hid (mulAddVWW_g_any w bz oz cz bx ox cx n y r C xs hz hx hxn hC ax wx wy wr_ hn)
 clear hz hx hxn hC ax wx wy wr_ hn
 go_enter Tryz.func303, Tryz.ntmps303
 go_wp2_with fail
 refine hP.out.mono ?_
 rintro e w' ⟨zs, c, rfl, h⟩
 go_wp2
 go_ret
 exact ⟨zs, c, rfl, h⟩
set_option maxRecDepth 100000 in
theorem addMulVVWW_g_any (w : World) (bz oz cz bx ox cx by_ oy cy n m a : Nat) (C xs ys : List Nat) (hz : Blk w bz C) (hx : Vec w bx ox xs) (hy : Vec w by_ oy ys) (hxn : xs.length = n) (hyn : ys.length = n) (hC : oz + n ≤ C.length)
  (ax : bx ≠ bz ∨ ox = oz) (ay : by_ ≠ bz ∨ oy = oz) (wx : Words WB xs) (wy : Words WB ys) (wm : m < WB) (wa : a < WB) (hn : n ≤ 1000000) :
  Calls Tryz.prog 350 #[.slice (some ⟨bz, oz, none⟩) n cz, .slice (some ⟨bx, ox, none⟩) n cx, .slice (some ⟨by_, oy, none⟩) n cy, .int .u64 m, .int .u64 a] w fun e w' =>
   ∃ (zs : List Nat) (c : Nat), e = .returned (.int .u64 ((c : Nat) : Int)) ∧ c < WB ∧ val WB zs + WB ^ n * c = val WB xs + val WB ys * m + a ∧ VecOut w w' bz oz C zs n := by
 go_enter Tryz.func350, Tryz.ntmps350
 go_wp2_with fail
 go_loopw [10, 32] (fun c i wr => ∃ (k : Nat) (zs : List Nat) (cc : Nat), k ≤ n ∧ i = .int .i64 k ∧ c = .int .u64 (cc : Nat) ∧ cc < WB ∧ val WB zs + WB ^ k * cc = val WB (xs.take k) + val WB (ys.take k) * m + a ∧ VecOut w wr bz oz C zs k) (fun _ i _ => n - (intOf i).toNat)
 case atStart => exact ⟨0, [], a, Nat.zero_le _, rfl, rfl, wa, by simp [val], .start hz⟩
 case round =>
  obtain ⟨k, zs, cc, hk, rfl, rfl, hcc, hval, hout⟩ := hrel
  by_cases hlt : k < n
  ·have hxk := hout.read hz hx ax (by omega) k (by omega) (Nat.le_refl _)
   have hyk := hout.read hz hy ay (by omega) k (by omega) (Nat.le_refl _)
   obtain ⟨u, hzk⟩ := hout.there (by omega)
   have hfk := hout.room (oz + k)
   have wxk := wx.get k (by omega)
   have wyk := wy.get k (by omega)
   have hz0 := macL_lt ys[k] m xs[k]
   have hsum := mac2_eq ys[k] m xs[k] cc
   have hlt2 := mac2_lt wyk wm wxk hcc
   have ew : IntKind.u64.wrap (((carW (macL ys[k] m xs[k]) cc 0 : Nat) : Int) + ((macH ys[k] m xs[k] : Nat) : Int)) = ((carW (macL ys[k] m xs[k]) cc 0 + macH ys[k] m xs[k] : Nat) : Int) := by
    rw [← Int.natCast_add]; exact wrapW hlt2
   have hsum' := Lib.hid hsum; clear hsum
   go_wp2_with fail
   go_quiet ((go_at_call 346; exact Calls.quiet_of_same (mulAddWWW_any _ _ _ wyk wm wxk _)))
   go_wp2_with fail
   refine (bitsAdd _ _ 0 hz0 hcc (by omega) _).mono ?_
   rintro e w' ⟨rfl, rfl⟩
   go_wp2_with fail
   go_roundw
   case rel =>
    refine ⟨k + 1, zs ++ [sumW (macL ys[k] m xs[k]) cc 0], carW (macL ys[k] m xs[k]) cc 0 + macH ys[k] m xs[k], by omega, by go_num, rfl, hlt2, ?_, (hout.drewN _).snoc _ (sumW_lt _ _ _) (by omega)⟩
    rw [val_take_succ xs k (by omega), val_take_succ ys k (by omega)]
    exact val_step_mac hout.len hval hsum'.out
   case measure => simp [intOf]; omega
  ·obtain rfl : k = n := by omega
   go_wp2_with fail
   go_ret
   refine ⟨zs, cc, rfl, hcc, ?_, hout⟩
   rwa [List.take_of_length_le (by omega), List.take_of_length_le (by omega)] at hval
theorem addMulVVWW_any (w : World) (bz oz cz bx ox cx by_ oy cy n m a : Nat) (C xs ys : List Nat) (hz : Blk w bz C) (hx : Vec w bx ox xs) (hy : Vec w by_ oy ys) (hxn : xs.length = n) (hyn : ys.length = n) (hC : oz + n ≤ C.length)
  (ax : bx ≠ bz ∨ ox = oz) (ay : by_ ≠ bz ∨ oy = oz) (wx : Words WB xs) (wy : Words WB ys) (wm : m < WB) (wa : a < WB) (hn : n ≤ 1000000) :
  Calls Tryz.prog 334 #[.slice (some ⟨bz, oz, none⟩) n cz, .slice (some ⟨bx, ox, none⟩) n cx, .slice (some ⟨by_, oy, none⟩) n cy, .int .u64 m, .int .u64 a] w fun e w' =>
   ∃ (zs : List Nat) (c : Nat), e = .returned (.int .u64 ((c : Nat) : Int)) ∧ c < WB ∧ val WB zs + WB ^ n * c = val WB xs + val WB ys * m + a ∧ VecOut w w' bz oz C zs n := by
 have hP := Lib.hid (addMulVVWW_g_any w bz oz cz bx ox cx by_ oy cy n m a C xs ys hz hx hy hxn hyn hC ax ay wx wy wm wa hn)
 clear hz hx hy hxn hyn hC ax ay wx wy wm wa hn
 go_enter Tryz.func334, Tryz.ntmps334
 go_wp2_with fail
 refine hP.out.mono ?_
 rintro e w' ⟨zs, c, rfl, h⟩
 go_wp2
 go_ret
 exact ⟨zs, c, rfl, h⟩
end Go.Proofs.YtgamldefngehlaaGreatDoor
namespace Go.Proofs.YtgamldefngehlaaGreatDoor
open Go.RowKit
def subP (b o k c : Nat) : Option Addr := if c = k then some ⟨b, o, none⟩ else some ⟨b, o + k, none⟩
theorem subP_lt {b o k c : Nat} (h : c ≠ k) : subP b o k c = some ⟨b, o + k, none⟩ := if_neg h
theorem elemW : Tryz.prog.elem 136 = 225 := by kernel_rfl
theorem elemN : Tryz.prog.elem 137 = 225 := by kernel_rfl
theorem sizeW (w : World) : (sizeOf 225).run Tryz.prog w = .ok 1 w := by kernel_rfl
theorem tailT (T : TypeId) (hT : Tryz.prog.underlying T = some (.slice 225)) (hE : Tryz.prog.elem T = 225) (b o n c k : Nat) (hk : k ≤ n) (w : World) :
  (Instr.slice T (.slice (some ⟨b, o, none⟩) n c) (some (.int .i64 (k : Int))) none none).run Tryz.prog w = .ok (.slice (subP b o k c) (n - k) (c - k)) w := by
 rw [run_slice_l w T _ _ _ (by rw [hE]; exact hT) .i64 k (by omega) (by omega), hE, sizeW]
 simp only [Result.andThen, sliced, subP, Int.toNat_natCast, Nat.mul_one]
 by_cases h : c = k
 ·simp [h]
 ·simp [h, Addr.add_lit]
theorem tailW (b o n c k : Nat) (hk : k ≤ n) (w : World) :
  (Instr.slice 136 (.slice (some ⟨b, o, none⟩) n c) (some (.int .i64 (k : Int))) none none).run Tryz.prog w = .ok (.slice (subP b o k c) (n - k) (c - k)) w := tailT 136 Tryz.underlying136 elemW b o n c k hk w
theorem tailN (b o n c k : Nat) (hk : k ≤ n) (w : World) :
  (Instr.slice 137 (.slice (some ⟨b, o, none⟩) n c) (some (.int .i64 (k : Int))) none none).run Tryz.prog w = .ok (.slice (subP b o k c) (n - k) (c - k)) w := tailT 137 Tryz.underlying137 elemN b o n c k hk w
theorem u64s_one (xs : List Nat) : ∀ u ∈ u64s xs, u.oneCell' = true := by
 intro u hu; obtain ⟨_, _, rfl⟩ := List.mem_map.1 hu; rfl
theorem splice_u64 (C : List Nat) (o : Nat) (ys : List Nat) : splice (u64s C) o (u64s ys) = u64s (over C o ys) := by
 simp [splice, over, u64s, List.map_append, List.map_take, List.map_drop]
theorem Spliced.blk {g o : Nat} {C ys : List Nat} {w w' : World} (h : Spliced g 225 (u64s C) o (u64s ys) w w') : Blk w' g (over C o ys) ∧ Keeps (fun k => k = g) w w' :=
 ⟨by unfold Blk; rw [h.1, splice_u64], h.2⟩
theorem VecOut.copied {w w1 w2 : World} {bz oz k n : Nat} {C zs ys : List Nat} (h : VecOut w w1 bz oz C zs k) (hw : Words WB ys) (hn : k + ys.length = n) (hC : oz + n ≤ C.length)
  (hs : Spliced bz 225 (u64s (over C oz zs)) (oz + k) (u64s ys) w1 w2) : VecOut w w2 bz oz C (zs ++ ys) n := by
 obtain ⟨hb, hk⟩ := hs.blk
 have hl := h.len
 refine ⟨by simp; omega, h.words.append hw, ?_, h.keep.trans hk (fun _ _ e => e)⟩
 rw [← hl, over_over C oz zs ys (by omega)] at hb
 exact hb
theorem VecOut.same {w w1 : World} {b o k n : Nat} {C zs xs : List Nat} (h : VecOut w w1 b o C zs k) (hz : Blk w b C) (hx : Vec w b o xs) (hw : Words WB xs) (hn : xs.length = n) (hk : k ≤ n) (hC : o + n ≤ C.length) : VecOut w w1 b o C (zs ++ xs.drop k) n := by
 have hl := h.len
 refine ⟨by simp; omega, h.words.append (hw.drop _), ?_, h.keep⟩
 have e : over C o (zs ++ xs.drop k) = over C o zs := by
  rw [← over_over C o zs (xs.drop k) (by simp; omega)]
  refine List.ext_getElem? fun i => ?_
  have hlo : (over C o zs).length = C.length := over_length _ _ _ (by omega)
  by_cases h1 : i < o + zs.length
  ·rw [over_get_lt _ _ _ _ h1 (by omega)]
  ·by_cases h2 : i < o + zs.length + (xs.drop k).length
   ·rw [over_get_in _ _ _ _ (by omega) h2 (by omega), over_get_ge _ _ _ _ (by omega) (by omega)]
    simp only [List.length_drop] at h2
    have hc := hx (i - o) (by omega)
    rw [show o + (i - o) = i by omega, hz.cell i (by omega)] at hc
    rw [List.getElem?_drop, List.getElem?_eq_getElem (by omega), List.getElem?_eq_getElem (by omega)]
    have hc' : C[i] = xs[i - o] := Int.ofNat_inj.1 (by simpa using hc)
    rw [hc']
    congr 2
    omega
   ·rw [over_get_ge _ _ _ _ (by omega) (by simp only [List.length_drop]; omega)]
 rw [e]; exact h.blk
end Go.Proofs.YtgamldefngehlaaGreatDoor
namespace Go.Proofs.YtgamldefngehlaaGreatDoor
open Go.RowKit
theorem VecOut.drew {w w' : World} {bz oz n : Nat} {C zs : List Nat} (h : VecOut w w' bz oz C zs n) : VecOut w w'.drew bz oz C zs n := ⟨h.len, h.words, h.blk, h.keep.drew⟩
theorem fitsTail {w W : World} {bz oz bx ox n k cz cx : Nat} {C zs xs : List Nat} (h : VecOut w W bz oz C zs k) (hz : Blk w bz C) (hx : Vec w bx ox xs) (hxn : xs.length = n) (hk : k ≤ n) (hC : oz + n ≤ C.length) (hs : bx ≠ bz) (hcz : n ≤ cz) (hcx : n ≤ cx) :
  CopyFits W (subP bz oz k cz) (subP bx ox k cx) (n - k) (n - k) bz (oz + k) (u64s (over C oz zs)) (u64s (xs.drop k)) (n - k) := by
 have hl := h.len
 refine ⟨by simp [hxn], (Nat.min_self _).symm, fun hp => ⟨subP_lt (by omega), _, subP_lt (by omega), fun j v hj => ?_⟩, ?_, u64s_one _⟩
 ·obtain ⟨hj', rfl⟩ := List.getElem?_eq_some_iff.1 hj
  simp only [List.length_map, List.length_drop] at hj'
  have := h.keep.cellS (hx (k + j) (by omega)) hs
  rw [Addr.add_lit, Nat.add_assoc, this]
  simp
 ·simp only [List.length_map, over_length _ _ _ (show oz + zs.length ≤ C.length by omega)]
  omega
theorem vw_add_more {B : Nat} {zs xs : List Nat} {i y : Nat} (hB : 0 < B) (hl : zs.length = i) (hi : i < xs.length) (h : val B zs + B ^ i = val B (xs.take i) + y) (hx : xs[i] = B - 1) : val B (zs ++ [0]) + B ^ (i + 1) = val B (xs.take (i + 1)) + y := by
 rw [val_snoc, val_take_succ xs i hi, hx, Nat.mul_zero, Nat.pow_succ, Nat.mul_sub_one]
 have : B ^ i ≤ B ^ i * B := Nat.le_mul_of_pos_right _ hB
 omega
theorem vw_add_end {B : Nat} {zs xs : List Nat} {i y : Nat} (hl : zs.length = i) (hi : i < xs.length) (h : val B zs + B ^ i = val B (xs.take i) + y) : val B (zs ++ [xs[i] + 1] ++ xs.drop (i + 1)) = val B xs + y := by
 rw [val_append, val_snoc, val_split xs i (by omega), val_drop_cons xs i hi, List.length_append, hl, List.length_singleton, Nat.mul_add, Nat.mul_add, Nat.mul_one, Nat.pow_succ, Nat.mul_assoc]
 omega
theorem vw_sub_more {B : Nat} {zs xs : List Nat} {i y : Nat} (hB : 0 < B) (hl : zs.length = i) (hi : i < xs.length) (h : val B zs + y = val B (xs.take i) + B ^ i) (hx : xs[i] = 0) : val B (zs ++ [B - 1]) + y = val B (xs.take (i + 1)) + B ^ (i + 1) := by
 rw [val_snoc, val_take_succ xs i hi, hx, Nat.mul_zero, hl, Nat.pow_succ, Nat.mul_sub_one]
 have : B ^ i ≤ B ^ i * B := Nat.le_mul_of_pos_right _ hB
 omega
theorem vw_sub_end {B : Nat} {zs xs : List Nat} {i y : Nat} (hl : zs.length = i) (hi : i < xs.length) (h : val B zs + y = val B (xs.take i) + B ^ i) (hx : xs[i] ≠ 0) : val B (zs ++ [xs[i] - 1] ++ xs.drop (i + 1)) + y = val B xs := by
 rw [val_append, val_snoc, val_split xs i (by omega), val_drop_cons xs i hi, List.length_append, hl, List.length_singleton, Nat.mul_add, Nat.pow_succ, Nat.mul_assoc, Nat.mul_sub_one]
 have : B ^ i ≤ B ^ i * xs[i] := Nat.le_mul_of_pos_right _ (by omega)
 omega
theorem vw0_add {xs : List Nat} {s y n : Nat} (h0 : 0 < xs.length) (hc : s + WB * 0 = xs[0] + y + 0) : val WB ([s] ++ xs.drop 1) + WB ^ n * 0 = val WB xs + y := by
 rw [val_append, val_one, List.length_singleton, Nat.pow_one, Nat.mul_zero]
 have e := val_drop_cons (B := WB) xs 0 h0
 rw [List.drop_zero] at e
 rw [e]
 simp only [Nat.zero_add]
 omega
set_option maxRecDepth 100000 in
set_option maxHeartbeats 1000000 in
theorem addVW_any (w : World) (bz oz cz bx ox cx n y : Nat) (C xs : List Nat) (hz : Blk w bz C) (hx : Vec w bx ox xs) (hxn : xs.length = n) (hC : oz + n ≤ C.length)
  (ax : bx ≠ bz ∨ ox = oz) (wx : Words WB xs) (wy : y < WB) (h0 : 0 < n) (hn : n ≤ 1000000) (hcz : n ≤ cz) (hcx : n ≤ cx) (hkx : Known w bx) :
  Calls Tryz.prog 299 #[.slice (some ⟨bz, oz, none⟩) n cz, .slice (some ⟨bx, ox, none⟩) n cx, .int .u64 y] w fun e w' =>
   ∃ (zs : List Nat) (c : Nat), e = .returned (.int .u64 ((c : Nat) : Int)) ∧ c ≤ 1 ∧ val WB zs + WB ^ n * c = val WB xs + y ∧ VecOut w w' bz oz C zs n := by
 have hx0 := hx 0 (by omega)
 rw [Nat.add_zero] at hx0
 have hz0 := hz.cell oz (by omega)
 have hf0 := hz.frozen oz
 have hn0 : ¬ n = 0 := by omega
 have wx0 := wx.get 0 (by omega)
 have hB := bitsAdd xs[0] y 0 wx0 wy (by omega)
 have hk1 := carW_le1 wx0 wy (show 0 ≤ 1 by omega)
 have hb1 := (VecOut.start (oz := oz) hz).snoc (C := C) (sumW xs[0] y 0) (sumW_lt _ _ _) (by omega)
 rw [Nat.add_zero] at hb1
 rcases (show carW xs[0] y 0 = 0 ∨ carW xs[0] y 0 = 1 by omega) with hk | hk
 ·rw [hk] at hB
  change ∀ w, Calls _ _ _ w (fun e w' => e = .returned (.tuple #[_, .int .u64 0]) ∧ w' = w) at hB
  have hB' := Lib.hid hB
  clear hB hk1
  replace hk := Lib.hid hk
  go_enter Tryz.func299, Tryz.ntmps299
  go_wp2_with fail
  refine (hB'.out _).mono ?_
  rintro e w1 ⟨rfl, hw1⟩
  obtain rfl := hw1.symm
  have hkz : Known (w.setCell ⟨bz, oz, none⟩ (.int .u64 (sumW xs[0] y 0 : Nat))).drew bz := ⟨_, _, (hb1).blk⟩
  by_cases hs : bx = bz
  ·subst hs
   obtain rfl := ax.resolve_left (fun h => h rfl)
   have hne : (binOp .neq 253 (.pointer (some ⟨bx, ox, none⟩)) (.pointer (some ⟨bx, ox, none⟩))).run Tryz.prog (w.setCell ⟨bx, ox, none⟩ (.int .u64 (sumW xs[0] y 0 : Nat))).drew = .ok (.bool false) (w.setCell ⟨bx, ox, none⟩ (.int .u64 (sumW xs[0] y 0 : Nat))).drew := by
    rw [wordNe _ _ _ hkz hkz]; simp
   have hfin := Lib.hid ((hb1).drew.same hz hx wx hxn (by omega) hC)
   replace hb1 := Lib.hid hb1
   go_wp2_with fail
   go_region
   go_wp2
   go_ret
   exact ⟨_, 0, rfl, by omega, by have hc := (sumW_car xs[0] y 0); rw [hk.out] at hc; exact vw0_add (by omega) hc, hfin.out⟩
  ·have hkx' : Known (w.setCell ⟨bz, oz, none⟩ (.int .u64 (sumW xs[0] y 0 : Nat))).drew bx := hkx.kept ((hb1).keep.blk _ (by obtain ⟨_, _, h⟩ := hkx; exact sizeOf_blk h) hs)
   have hne : (binOp .neq 253 (.pointer (some ⟨bz, oz, none⟩)) (.pointer (some ⟨bx, ox, none⟩))).run Tryz.prog (w.setCell ⟨bz, oz, none⟩ (.int .u64 (sumW xs[0] y 0 : Nat))).drew = .ok (.bool true) (w.setCell ⟨bz, oz, none⟩ (.int .u64 (sumW xs[0] y 0 : Nat))).drew := by
    rw [wordNe _ _ _ hkz hkx']; simp [show ¬ bz = bx from fun e => hs e.symm]
   have htz : ∀ W, (Instr.slice 136 (.slice (some ⟨bz, oz, none⟩) n cz) (some (.int .i64 (1))) none none).run Tryz.prog W = .ok (.slice (subP bz oz 1 cz) (n - 1) (cz - 1)) W := fun W => tailW bz oz n cz 1 (by omega) W
   have htx : ∀ W, (Instr.slice 136 (.slice (some ⟨bx, ox, none⟩) n cx) (some (.int .i64 (1))) none none).run Tryz.prog W = .ok (.slice (subP bx ox 1 cx) (n - 1) (cx - 1)) W := fun W => tailW bx ox n cx 1 (by omega) W
   have q := fitsTail (hb1).drew.drew hz hx hxn (show 1 ≤ n by omega) hC hs hcz hcx
   have hb1' := Lib.hid (hb1)
   clear hb1
   go_wp2_with fail
   go_region
   go_wp2_with fail
   go_region_law (refine step_copy_kept rfl (.tmp 40) (.tmp 42) 136 136 rfl 225 Tryz.underlying136 Tryz.infoWsize (subP bz oz 1 cz) (subP bx ox 1 cx) (n - 1) (cz - 1) (n - 1) (cx - 1) (by simp [Act.eval, Act.put]) (by simp [Act.eval, Act.put]) bz (oz + 1) (u64s (over C oz ([sumW xs[0] y 0]))) 225 hb1'.out.drew.drew.blk (u64s (xs.drop 1)) (n - 1) q ?_; intro w2 hsp)
   go_wp2
   go_ret
   exact ⟨_, 0, rfl, by omega, by have hc := (sumW_car xs[0] y 0); rw [hk.out] at hc; exact vw0_add (by omega) hc, hb1'.out.drew.drew.copied (wx.drop 1) (by simp; omega) hC hsp⟩
 ·rw [hk] at hB
  change ∀ w, Calls _ _ _ w (fun e w' => e = .returned (.tuple #[_, .int .u64 1]) ∧ w' = w) at hB
  have hB' := Lib.hid hB
  clear hB hk1
  have hv1 := (sumW_car xs[0] y 0)
  rw [hk] at hv1
  have hb1' := Lib.hid hb1
  clear hk hb1
  have hv1' := Lib.hid hv1
  clear hv1
  go_enter Tryz.func299, Tryz.ntmps299
  go_wp2_with fail
  refine (hB'.out _).mono ?_
  rintro e w1 ⟨rfl, hw1⟩
  obtain rfl := hw1.symm
  go_wp2_with fail
  go_loopw [9] (fun i wr => ∃ (k : Nat) (zs : List Nat), 1 ≤ k ∧ k ≤ n ∧ i = .int .i64 k ∧ val WB zs + WB ^ k = val WB (xs.take k) + y ∧ VecOut w wr bz oz C zs k) (fun i _ => n - (intOf i).toNat)
  case atStart =>
   refine ⟨1, [sumW xs[0] y 0], Nat.le_refl _, by omega, rfl, ?_, by simpa using hb1'.out⟩
   have e := val_take_succ (B := WB) xs 0 (by omega)
   rw [e, val_one]
   have := hv1'.out
   simp [val]
   omega
  case round =>
   obtain ⟨k, zs, hk1, hk, rfl, hval, hout⟩ := hrel
   clear hx0 hz0 hf0
   by_cases hlt : k < n
   ·have hxk := hout.read hz hx ax (by omega) k (by omega) (Nat.le_refl _)
    obtain ⟨u, hzk⟩ := hout.there (by omega)
    have hfk := hout.room (oz + k)
    have wxk := wx.get k (by omega)
    by_cases hmax : xs[k] = WB - 1
    ·have hm1 : ((xs[k] : Nat) : Int) = 18446744073709551615 := by rw [hmax]; rw [WB_eq]; rfl
     go_wp2_with fail
     go_roundw
     case rel =>
      refine ⟨k + 1, zs ++ [0], by omega, by omega, by go_num, vw_add_more WB_pos hout.len (by omega) hval hmax, ?_⟩
      have := hout.snoc (0) (by rw [WB_eq]; omega) (by omega)
      simpa [WB_eq] using this
     case measure => simp [intOf]; omega
    ·have hm1 : ((xs[k] : Nat) : Int) ≠ 18446744073709551615 := by have := WB_eq; omega
     have hb1 : VecOut w (wr.setCell ⟨bz, oz + k, none⟩ (.int .u64 ((xs[k] : Nat) + (1 : Int)))) bz oz C (zs ++ [xs[k] + 1]) (k + 1) := by
      have := hout.snoc (xs[k] + 1) (by omega) (by omega)
      rwa [show ((xs[k] + 1 : Nat) : Int) = (xs[k] : Nat) + (1 : Int) by omega] at this
     have ew : IntKind.u64.wrap ((xs[k] : Nat) + (1 : Int)) = (xs[k] : Nat) + (1 : Int) := by
      rw [show ((xs[k] : Nat) + (1 : Int)) = ((xs[k] + 1 : Nat) : Int) by omega]; exact wrapW (by omega)
     have ei : IntKind.i64.wrap ((k : Int) + 1) = (k : Int) + 1 := by simp [IntKind.wrap, IntKind.bits, IntKind.signed]; omega
     have hval' := Lib.hid hval
     clear hval
     have hkz : Known ((wr.setCell ⟨bz, oz + k, none⟩ (.int .u64 ((xs[k] : Nat) + (1 : Int))))).drew bz := ⟨_, _, (hb1).blk⟩
     by_cases hs : bx = bz
     ·subst hs
      obtain rfl := ax.resolve_left (fun h => h rfl)
      have hne : (binOp .neq 253 (.pointer (some ⟨bx, ox, none⟩)) (.pointer (some ⟨bx, ox, none⟩))).run Tryz.prog ((wr.setCell ⟨bx, ox + k, none⟩ (.int .u64 ((xs[k] : Nat) + (1 : Int))))).drew = .ok (.bool false) ((wr.setCell ⟨bx, ox + k, none⟩ (.int .u64 ((xs[k] : Nat) + (1 : Int))))).drew := by
       rw [wordNe _ _ _ hkz hkz]; simp
      have hfin := Lib.hid ((hb1).drew.same hz hx wx hxn (by omega) hC)
      replace hb1 := Lib.hid hb1
      go_wp2_with fail
      go_region
      go_wp2
      go_ret
      exact ⟨_, 0, rfl, by omega, by have := vw_add_end hout.len (show k < xs.length by omega) hval'.out; omega, hfin.out⟩
     ·have hkx' : Known ((wr.setCell ⟨bz, oz + k, none⟩ (.int .u64 ((xs[k] : Nat) + (1 : Int))))).drew bx := hkx.kept ((hb1).keep.blk _ (by obtain ⟨_, _, h⟩ := hkx; exact sizeOf_blk h) hs)
      have hne : (binOp .neq 253 (.pointer (some ⟨bz, oz, none⟩)) (.pointer (some ⟨bx, ox, none⟩))).run Tryz.prog ((wr.setCell ⟨bz, oz + k, none⟩ (.int .u64 ((xs[k] : Nat) + (1 : Int))))).drew = .ok (.bool true) ((wr.setCell ⟨bz, oz + k, none⟩ (.int .u64 ((xs[k] : Nat) + (1 : Int))))).drew := by
       rw [wordNe _ _ _ hkz hkx']; simp [show ¬ bz = bx from fun e => hs e.symm]
      have htz : ∀ W, (Instr.slice 136 (.slice (some ⟨bz, oz, none⟩) n cz) (some (.int .i64 (k + 1))) none none).run Tryz.prog W = .ok (.slice (subP bz oz (k + 1) cz) (n - (k + 1)) (cz - (k + 1))) W := fun W => tailW bz oz n cz (k + 1) (by omega) W
      have htx : ∀ W, (Instr.slice 136 (.slice (some ⟨bx, ox, none⟩) n cx) (some (.int .i64 (k + 1))) none none).run Tryz.prog W = .ok (.slice (subP bx ox (k + 1) cx) (n - (k + 1)) (cx - (k + 1))) W := fun W => tailW bx ox n cx (k + 1) (by omega) W
      have q := fitsTail (hb1).drew.drew hz hx hxn (show (k + 1) ≤ n by omega) hC hs hcz hcx
      have hb1' := Lib.hid (hb1)
      clear hb1
      go_wp2_with fail
      go_region
      go_wp2_with fail
      go_region_law (refine step_copy_kept rfl (.tmp 69) (.tmp 73) 136 136 rfl 225 Tryz.underlying136 Tryz.infoWsize (subP bz oz (k + 1) cz) (subP bx ox (k + 1) cx) (n - (k + 1)) (cz - (k + 1)) (n - (k + 1)) (cx - (k + 1)) (by simp [Act.eval, Act.put]) (by simp [Act.eval, Act.put]) bz (oz + (k + 1)) (u64s (over C oz (zs ++ [xs[k] + 1]))) 225 hb1'.out.drew.drew.blk (u64s (xs.drop (k + 1))) (n - (k + 1)) q ?_; intro w2 hsp)
      go_wp2
      go_ret
      exact ⟨_, 0, rfl, by omega, by have := vw_add_end hout.len (show k < xs.length by omega) hval'.out; omega, hb1'.out.drew.drew.copied (wx.drop (k + 1)) (by simp; omega) hC hsp⟩
   ·obtain rfl : k = n := by omega
    go_wp2_with fail
    go_ret
    refine ⟨zs, 1, rfl, Nat.le_refl _, ?_, hout⟩
    rw [List.take_of_length_le (by omega)] at hval
    omega
theorem vw0_sub {xs : List Nat} {s y n : Nat} (h0 : 0 < xs.length) (hc : s + y + 0 = xs[0] + WB * 0) : val WB ([s] ++ xs.drop 1) + y = val WB xs + WB ^ n * 0 := by
 rw [val_append, val_one, List.length_singleton, Nat.pow_one, Nat.mul_zero]
 have e := val_drop_cons (B := WB) xs 0 h0
 rw [List.drop_zero] at e
 rw [e]
 simp only [Nat.zero_add]
 omega
set_option maxRecDepth 100000 in
set_option maxHeartbeats 1000000 in
theorem subVW_any (w : World) (bz oz cz bx ox cx n y : Nat) (C xs : List Nat) (hz : Blk w bz C) (hx : Vec w bx ox xs) (hxn : xs.length = n) (hC : oz + n ≤ C.length)
  (ax : bx ≠ bz ∨ ox = oz) (wx : Words WB xs) (wy : y < WB) (h0 : 0 < n) (hn : n ≤ 1000000) (hcz : n ≤ cz) (hcx : n ≤ cx) (hkx : Known w bx) :
  Calls Tryz.prog 301 #[.slice (some ⟨bz, oz, none⟩) n cz, .slice (some ⟨bx, ox, none⟩) n cx, .int .u64 y] w fun e w' =>
   ∃ (zs : List Nat) (c : Nat), e = .returned (.int .u64 ((c : Nat) : Int)) ∧ c ≤ 1 ∧ val WB zs + y = val WB xs + WB ^ n * c ∧ VecOut w w' bz oz C zs n := by
 have hx0 := hx 0 (by omega)
 rw [Nat.add_zero] at hx0
 have hz0 := hz.cell oz (by omega)
 have hf0 := hz.frozen oz
 have hn0 : ¬ n = 0 := by omega
 have wx0 := wx.get 0 (by omega)
 have hB := bitsSub xs[0] y 0 wx0 wy (by omega)
 have hk1 := borW_le xs[0] y 0
 have hb1 := (VecOut.start (oz := oz) hz).snoc (C := C) (difW xs[0] y 0) (difW_lt _ _ _) (by omega)
 rw [Nat.add_zero] at hb1
 rcases (show borW xs[0] y 0 = 0 ∨ borW xs[0] y 0 = 1 by omega) with hk | hk
 ·rw [hk] at hB
  change ∀ w, Calls _ _ _ w (fun e w' => e = .returned (.tuple #[_, .int .u64 0]) ∧ w' = w) at hB
  have hB' := Lib.hid hB
  clear hB hk1
  replace hk := Lib.hid hk
  go_enter Tryz.func301, Tryz.ntmps301
  go_wp2_with fail
  refine (hB'.out _).mono ?_
  rintro e w1 ⟨rfl, hw1⟩
  obtain rfl := hw1.symm
  have hkz : Known (w.setCell ⟨bz, oz, none⟩ (.int .u64 (difW xs[0] y 0 : Nat))).drew bz := ⟨_, _, (hb1).blk⟩
  by_cases hs : bx = bz
  ·subst hs
   obtain rfl := ax.resolve_left (fun h => h rfl)
   have hne : (binOp .neq 253 (.pointer (some ⟨bx, ox, none⟩)) (.pointer (some ⟨bx, ox, none⟩))).run Tryz.prog (w.setCell ⟨bx, ox, none⟩ (.int .u64 (difW xs[0] y 0 : Nat))).drew = .ok (.bool false) (w.setCell ⟨bx, ox, none⟩ (.int .u64 (difW xs[0] y 0 : Nat))).drew := by
    rw [wordNe _ _ _ hkz hkz]; simp
   have hfin := Lib.hid ((hb1).drew.same hz hx wx hxn (by omega) hC)
   replace hb1 := Lib.hid hb1
   go_wp2_with fail
   go_region
   go_wp2
   go_ret
   exact ⟨_, 0, rfl, by omega, by have hc := (difW_bor wx0 wy (show 0 ≤ 1 by omega)); rw [hk.out] at hc; exact vw0_sub (by omega) hc, hfin.out⟩
  ·have hkx' : Known (w.setCell ⟨bz, oz, none⟩ (.int .u64 (difW xs[0] y 0 : Nat))).drew bx := hkx.kept ((hb1).keep.blk _ (by obtain ⟨_, _, h⟩ := hkx; exact sizeOf_blk h) hs)
   have hne : (binOp .neq 253 (.pointer (some ⟨bz, oz, none⟩)) (.pointer (some ⟨bx, ox, none⟩))).run Tryz.prog (w.setCell ⟨bz, oz, none⟩ (.int .u64 (difW xs[0] y 0 : Nat))).drew = .ok (.bool true) (w.setCell ⟨bz, oz, none⟩ (.int .u64 (difW xs[0] y 0 : Nat))).drew := by
    rw [wordNe _ _ _ hkz hkx']; simp [show ¬ bz = bx from fun e => hs e.symm]
   have htz : ∀ W, (Instr.slice 136 (.slice (some ⟨bz, oz, none⟩) n cz) (some (.int .i64 (1))) none none).run Tryz.prog W = .ok (.slice (subP bz oz 1 cz) (n - 1) (cz - 1)) W := fun W => tailW bz oz n cz 1 (by omega) W
   have htx : ∀ W, (Instr.slice 136 (.slice (some ⟨bx, ox, none⟩) n cx) (some (.int .i64 (1))) none none).run Tryz.prog W = .ok (.slice (subP bx ox 1 cx) (n - 1) (cx - 1)) W := fun W => tailW bx ox n cx 1 (by omega) W
   have q := fitsTail (hb1).drew.drew hz hx hxn (show 1 ≤ n by omega) hC hs hcz hcx
   have hb1' := Lib.hid (hb1)
   clear hb1
   go_wp2_with fail
   go_region
   go_wp2_with fail
   go_region_law (refine step_copy_kept rfl (.tmp 40) (.tmp 42) 136 136 rfl 225 Tryz.underlying136 Tryz.infoWsize (subP bz oz 1 cz) (subP bx ox 1 cx) (n - 1) (cz - 1) (n - 1) (cx - 1) (by simp [Act.eval, Act.put]) (by simp [Act.eval, Act.put]) bz (oz + 1) (u64s (over C oz ([difW xs[0] y 0]))) 225 hb1'.out.drew.drew.blk (u64s (xs.drop 1)) (n - 1) q ?_; intro w2 hsp)
   go_wp2
   go_ret
   exact ⟨_, 0, rfl, by omega, by have hc := (difW_bor wx0 wy (show 0 ≤ 1 by omega)); rw [hk.out] at hc; exact vw0_sub (by omega) hc, hb1'.out.drew.drew.copied (wx.drop 1) (by simp; omega) hC hsp⟩
 ·rw [hk] at hB
  change ∀ w, Calls _ _ _ w (fun e w' => e = .returned (.tuple #[_, .int .u64 1]) ∧ w' = w) at hB
  have hB' := Lib.hid hB
  clear hB hk1
  have hv1 := (difW_bor wx0 wy (show 0 ≤ 1 by omega))
  rw [hk] at hv1
  have hb1' := Lib.hid hb1
  clear hk hb1
  have hv1' := Lib.hid hv1
  clear hv1
  go_enter Tryz.func301, Tryz.ntmps301
  go_wp2_with fail
  refine (hB'.out _).mono ?_
  rintro e w1 ⟨rfl, hw1⟩
  obtain rfl := hw1.symm
  go_wp2_with fail
  go_loopw [9] (fun i wr => ∃ (k : Nat) (zs : List Nat), 1 ≤ k ∧ k ≤ n ∧ i = .int .i64 k ∧ val WB zs + y = val WB (xs.take k) + WB ^ k ∧ VecOut w wr bz oz C zs k) (fun i _ => n - (intOf i).toNat)
  case atStart =>
   refine ⟨1, [difW xs[0] y 0], Nat.le_refl _, by omega, rfl, ?_, by simpa using hb1'.out⟩
   have e := val_take_succ (B := WB) xs 0 (by omega)
   rw [e, val_one]
   have := hv1'.out
   simp [val]
   omega
  case round =>
   obtain ⟨k, zs, hk1, hk, rfl, hval, hout⟩ := hrel
   clear hx0 hz0 hf0
   by_cases hlt : k < n
   ·have hxk := hout.read hz hx ax (by omega) k (by omega) (Nat.le_refl _)
    obtain ⟨u, hzk⟩ := hout.there (by omega)
    have hfk := hout.room (oz + k)
    have wxk := wx.get k (by omega)
    by_cases hmax : xs[k] = 0
    ·have hm1 : ((xs[k] : Nat) : Int) = 0 := by rw [hmax]; rfl
     go_wp2_with fail
     go_roundw
     case rel =>
      refine ⟨k + 1, zs ++ [WB - 1], by omega, by omega, by go_num, vw_sub_more WB_pos hout.len (by omega) hval hmax, ?_⟩
      have := hout.snoc (WB - 1) (by rw [WB_eq]; omega) (by omega)
      simpa [WB_eq] using this
     case measure => simp [intOf]; omega
    ·have hm1 : ((xs[k] : Nat) : Int) ≠ 0 := by have := WB_eq; omega
     have hb1 : VecOut w (wr.setCell ⟨bz, oz + k, none⟩ (.int .u64 ((xs[k] : Nat) - (1 : Int)))) bz oz C (zs ++ [xs[k] - 1]) (k + 1) := by
      have := hout.snoc (xs[k] - 1) (by omega) (by omega)
      rwa [show ((xs[k] - 1 : Nat) : Int) = (xs[k] : Nat) - (1 : Int) by omega] at this
     have ew : IntKind.u64.wrap ((xs[k] : Nat) - (1 : Int)) = (xs[k] : Nat) - (1 : Int) := by
      rw [show ((xs[k] : Nat) - (1 : Int)) = ((xs[k] - 1 : Nat) : Int) by omega]; exact wrapW (by omega)
     have ei : IntKind.i64.wrap ((k : Int) + 1) = (k : Int) + 1 := by simp [IntKind.wrap, IntKind.bits, IntKind.signed]; omega
     have hval' := Lib.hid hval
     clear hval
     have hkz : Known ((wr.setCell ⟨bz, oz + k, none⟩ (.int .u64 ((xs[k] : Nat) - (1 : Int))))).drew bz := ⟨_, _, (hb1).blk⟩
     by_cases hs : bx = bz
     ·subst hs
      obtain rfl := ax.resolve_left (fun h => h rfl)
      have hne : (binOp .neq 253 (.pointer (some ⟨bx, ox, none⟩)) (.pointer (some ⟨bx, ox, none⟩))).run Tryz.prog ((wr.setCell ⟨bx, ox + k, none⟩ (.int .u64 ((xs[k] : Nat) - (1 : Int))))).drew = .ok (.bool false) ((wr.setCell ⟨bx, ox + k, none⟩ (.int .u64 ((xs[k] : Nat) - (1 : Int))))).drew := by
       rw [wordNe _ _ _ hkz hkz]; simp
      have hfin := Lib.hid ((hb1).drew.same hz hx wx hxn (by omega) hC)
      replace hb1 := Lib.hid hb1
      go_wp2_with fail
      go_region
      go_wp2
      go_ret
      exact ⟨_, 0, rfl, by omega, by have := vw_sub_end hout.len (show k < xs.length by omega) hval'.out hmax; omega, hfin.out⟩
     ·have hkx' : Known ((wr.setCell ⟨bz, oz + k, none⟩ (.int .u64 ((xs[k] : Nat) - (1 : Int))))).drew bx := hkx.kept ((hb1).keep.blk _ (by obtain ⟨_, _, h⟩ := hkx; exact sizeOf_blk h) hs)
      have hne : (binOp .neq 253 (.pointer (some ⟨bz, oz, none⟩)) (.pointer (some ⟨bx, ox, none⟩))).run Tryz.prog ((wr.setCell ⟨bz, oz + k, none⟩ (.int .u64 ((xs[k] : Nat) - (1 : Int))))).drew = .ok (.bool true) ((wr.setCell ⟨bz, oz + k, none⟩ (.int .u64 ((xs[k] : Nat) - (1 : Int))))).drew := by
       rw [wordNe _ _ _ hkz hkx']; simp [show ¬ bz = bx from fun e => hs e.symm]
      have htz : ∀ W, (Instr.slice 136 (.slice (some ⟨bz, oz, none⟩) n cz) (some (.int .i64 (k + 1))) none none).run Tryz.prog W = .ok (.slice (subP bz oz (k + 1) cz) (n - (k + 1)) (cz - (k + 1))) W := fun W => tailW bz oz n cz (k + 1) (by omega) W
      have htx : ∀ W, (Instr.slice 136 (.slice (some ⟨bx, ox, none⟩) n cx) (some (.int .i64 (k + 1))) none none).run Tryz.prog W = .ok (.slice (subP bx ox (k + 1) cx) (n - (k + 1)) (cx - (k + 1))) W := fun W => tailW bx ox n cx (k + 1) (by omega) W
      have q := fitsTail (hb1).drew.drew hz hx hxn (show (k + 1) ≤ n by omega) hC hs hcz hcx
      have hb1' := Lib.hid (hb1)
      clear hb1
      go_wp2_with fail
      go_region
      go_wp2_with fail
      go_region_law (refine step_copy_kept rfl (.tmp 69) (.tmp 73) 136 136 rfl 225 Tryz.underlying136 Tryz.infoWsize (subP bz oz (k + 1) cz) (subP bx ox (k + 1) cx) (n - (k + 1)) (cz - (k + 1)) (n - (k + 1)) (cx - (k + 1)) (by simp [Act.eval, Act.put]) (by simp [Act.eval, Act.put]) bz (oz + (k + 1)) (u64s (over C oz (zs ++ [xs[k] - 1]))) 225 hb1'.out.drew.drew.blk (u64s (xs.drop (k + 1))) (n - (k + 1)) q ?_; intro w2 hsp)
      go_wp2
      go_ret
      exact ⟨_, 0, rfl, by omega, by have := vw_sub_end hout.len (show k < xs.length by omega) hval'.out hmax; omega, hb1'.out.drew.drew.copied (wx.drop (k + 1)) (by simp; omega) hC hsp⟩
   ·obtain rfl : k = n := by omega
    go_wp2_with fail
    go_ret
    refine ⟨zs, 1, rfl, Nat.le_refl _, ?_, hout⟩
    rw [List.take_of_length_le (by omega)] at hval
    omega
end Go.Proofs.YtgamldefngehlaaGreatDoor
