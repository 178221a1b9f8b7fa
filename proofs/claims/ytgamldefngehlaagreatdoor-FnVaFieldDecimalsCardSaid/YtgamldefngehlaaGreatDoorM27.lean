/- Parts of the walk. -/
import Derived.Test.YtgamldefngehlaaGreatDoorM11
import Derived.Test.YtgamldefngehlaaGreatDoorM18
import Derived.Test.YtgamldefngehlaaGreatDoorM21
import Derived.Test.YtgamldefngehlaaGreatDoorM22
import Derived.Test.YtgamldefngehlaaGreatDoorM26
set_option linter.unusedVariables false
set_option linter.unusedSimpArgs false
namespace Go.Proofs.YtgamldefngehlaaGreatDoor
open Go.RowKit
open Go.Proofs.YtgamldefngehlaaGreatDoorW.PrintLast
theorem makeWs (l : Nat) (hc : l ≤ 1000000) (w : World) :
  (Instr.makeSlice 136 (.int .i64 (l : Int)) (.int .i64 (l : Int))).run Tryz.prog w = .ok (.slice (some ⟨w.heap.size, 0, none⟩) l l) (w.alloc (.cells (madeCells #[Value.int .u64 0] l) 225 (0, 0))) := makeRun 136 Tryz.underlying136 l l (Nat.le_refl _) hc w
theorem and_even (n : Nat) (h : n < 256) (he : n % 2 = 0) : bits .and .u8 (n : Int) 1 = 0 := by
 have : ∀ k : Fin 256, k.val % 2 = 0 → bits .and .u8 ((k.val : Nat) : Int) 1 = 0 := by decide +kernel
 exact this ⟨n, h⟩ he
theorem DecAt.storeS {w : World} {base D S rb ro n c : Nat} {tr : Value} {dfv emp : Bool} {k : Nat} (h : DecAt w base D S rb ro n c tr dfv emp k) (i : Nat) (b : Int) : DecAt (w.setCell ⟨S, i, none⟩ (.int .u8 b)) base D S rb ro n c tr dfv emp k := by
 obtain ⟨C, hC, hs⟩ := h.scr
 obtain ⟨tb, te, ht⟩ := h.tra
 have n1 : D ≠ S := fun e => by
  have h1 := h.dec
  rw [e, hs] at h1
  simp only [Option.some.injEq, Obj.cells.injEq] at h1
  have h2 := congrArg Array.size h1.1
  simp at h2
  omega
 have n2 : tb ≠ S := fun e => by
  rw [e, hs] at ht
  simp only [Option.some.injEq, Obj.cells.injEq] at ht
  have h2 := congrArg Array.size ht.1
  simp at h2
  omega
 refine ⟨(blk_setCell_ne n1 _).trans h.dec, ⟨C.set i (.int .u8 b), by simp [hC], ?_⟩, h.lo, ⟨tb, te, (blk_setCell_ne n2 _).trans ht⟩⟩
 have := blk_setCell hs i (.int .u8 b)
 rw [this]
 simp
theorem dec15 (X : Nat) (h : 6116 ≤ X ∧ X < 6271) (s : Bool) : ∀ y, X / 128 + (if s = true then 128 else 0) = y → (bits .and .u8 (y : Int) 112 == 112) = false ∧ (bits .and .u8 (y : Int) 96 == 96) = false ∧ (bits .and .u8 (y : Int) 128 != 0) = s ∧ y < 256 ∧ y % 128 = X / 128 ∧ ∀ b : Nat, b < 256 → bits .or .u16 ((y * 256 : Nat) : Int) (b : Int) = ((y * 256 + b : Nat) : Int) := by
 intro y hy
 have o1 : ∀ b : Fin 256, bits .or .u16 ((47 * 256 : Nat) : Int) ((b.val : Nat) : Int) = ((47 * 256 + b.val : Nat) : Int) := by decide +kernel
 have o2 : ∀ b : Fin 256, bits .or .u16 ((48 * 256 : Nat) : Int) ((b.val : Nat) : Int) = ((48 * 256 + b.val : Nat) : Int) := by decide +kernel
 have o3 : ∀ b : Fin 256, bits .or .u16 ((175 * 256 : Nat) : Int) ((b.val : Nat) : Int) = ((175 * 256 + b.val : Nat) : Int) := by decide +kernel
 have o4 : ∀ b : Fin 256, bits .or .u16 ((176 * 256 : Nat) : Int) ((b.val : Nat) : Int) = ((176 * 256 + b.val : Nat) : Int) := by decide +kernel
 have hyl : y < 256 := by cases s <;> simp at hy <;> omega
 have hyc : y = 47 ∨ y = 48 ∨ y = 175 ∨ y = 176 := by cases s <;> simp at hy <;> omega
 refine ⟨?_, ?_, ?_, hyl, by cases s <;> simp at hy <;> omega, fun b hb => by rcases hyc with e | e | e | e <;> subst e <;> first | exact o1 ⟨b, hb⟩ | exact o2 ⟨b, hb⟩ | exact o3 ⟨b, hb⟩ | exact o4 ⟨b, hb⟩⟩
 all_goals
  rcases (show X / 128 = 47 ∨ X / 128 = 48 by omega) with e | e <;> cases s <;> simp [e] at hy <;> subst hy <;> decide +kernel
set_option maxRecDepth 100000 in
set_option maxHeartbeats 1000000 in
theorem decDec_any (w : World) (base D S rb ro n c : Nat) (tr : Value) (dfv emp : Bool) (k : Nat) (bs : List Int) (s : Bool) (Y X y14 y15 : Nat) (y : Nat → Nat) (hX : 6116 ≤ X ∧ X < 6271) (h14 : y14 = 2 * (X % 128)) (h15 : X / 128 + (if s = true then 128 else 0) = y15)
  (hb : ∀ j (h : k + j < bs.length), j < 14 → bs[k + j] = (y j : Int)) (hb14 : ∀ h : k + 14 < bs.length, bs[k + 14] = (y14 : Int)) (hb15 : ∀ h : k + 15 < bs.length, bs[k + 15] = (y15 : Int)) (hy : ∀ j, y j = Y / 256 ^ j % 256) (hY : Y < 256 ^ 14)
  (h : DecAt w base D S rb ro n c tr dfv emp k) (hin : Input w rb ro n c bs) (hkm : k + 16 ≤ n) :
  Calls Tryz.prog 188 #[.pointer (some ⟨D, 0, none⟩)] w fun e w' =>
   ∃ g v, e = .returned (.tuple #[.pointer (some ⟨g, 0, none⟩), .int .i64 ((X : Int) - 6176), .nilIface]) ∧ IntAt w' w.heap.size g 0 (decide (Y ≠ 0) && s) v Y ∧ w.heap.size ≤ g ∧ DecAt w' base D S rb ro n c tr dfv emp (k + 16) ∧ Keeps (fun x => x = D ∨ x = S) w w' := by
 obtain ⟨_, c3, _, _, _⟩ := h.cells
 have hR := Lib.hid (readScr w base D S rb ro n c tr dfv emp k bs h hin 16 4096 (by omega) hkm)
 have hbH := Lib.hid hb
 have hb4H := Lib.hid hb14
 have hb5H := Lib.hid hb15
 have hln := Lib.hid (show k + 16 ≤ bs.length by have := hin.len; omega)
 have hyH := Lib.hid hy
 have hYH := Lib.hid hY
 have h14H := Lib.hid h14
 obtain ⟨d1, d2, d3, d4, d5, d6⟩ := dec15 X hX s y15 h15
 have h15H := Lib.hid (And.intro h15 (And.intro d5 d6))
 have hXH := Lib.hid hX
 have hDS := Lib.hid (And.intro (sizeOf_blk h.dec) (show S < w.heap.size by obtain ⟨C, -, hs⟩ := h.scr; exact sizeOf_blk hs))
 clear hb hb14 hb15 hy hY h14 h15 d5 d6
 go_enter Tryz.func188, Tryz.ntmps188
 go_wp2_with fail
 refine hR.out.mono ?_
 rintro e w1 ⟨rfl, hd1, hc, hk, hbl⟩
 have cc14 : w1.cell? ⟨S, 14, none⟩ = some (.int .u8 (y14 : Int)) := by rw [hc 14 (by omega), hb4H.out (by have := hln.out; omega)]
 have cc15 : w1.cell? ⟨S, 15, none⟩ = some (.int .u8 (y15 : Int)) := by rw [hc 15 (by omega), hb5H.out (by have := hln.out; omega)]
 have hcy : ∀ j, j < 14 → w1.cell? ⟨S, j, none⟩ = some (.int .u8 (y j : Int)) := fun j hj => by rw [hc j (by omega), hbH.out j (by have := hln.out; omega) hj]
 have hcy := Lib.hid hcy
 have hd1H := Lib.hid hd1
 have hk1 := Lib.hid hk
 have hcH := Lib.hid hc
 have y14b : y14 < 256 := by have := h14H.out; omega
 have hor := h15H.out.2.2 y14 y14b
 clear hd1 hc hk hbl
 obtain ⟨V, hV⟩ : ∃ x, y15 * 256 + y14 = x := ⟨_, rfl⟩
 obtain ⟨V1, hV1⟩ : ∃ x, y15 * 256 = x := ⟨_, rfl⟩
 rw [hV, hV1] at hor
 have i1 : IntKind.u16.wrap ((y15 : Int) * 256) = (V1 : Int) := by simp [IntKind.wrap, IntKind.bits, IntKind.signed]; omega
 have i0 : (y15 : Int) * 256 = (V1 : Int) := by omega
 have i2 : IntKind.u16.wrap (y15 : Int) = (y15 : Int) := by simp [IntKind.wrap, IntKind.bits, IntKind.signed]; omega
 have i3 : IntKind.u16.wrap (y14 : Int) = (y14 : Int) := by simp [IntKind.wrap, IntKind.bits, IntKind.signed]; omega
 have i5 : IntKind.u16.wrap (V1 : Int) = (V1 : Int) := by simp [IntKind.wrap, IntKind.bits, IntKind.signed]; omega
 obtain ⟨V2, hV2⟩ : ∃ x, V * 2 % 65536 = x := ⟨_, rfl⟩
 have i4 : IntKind.u16.wrap ((V : Int) * 2) = (V2 : Int) := by simp [IntKind.wrap, IntKind.bits, IntKind.signed]; omega
 have i6 : (V2 : Int) / 4 = (X : Int) := by have := h14H.out; have := h15H.out.2.1; omega
 have hVH := Lib.hid (And.intro hV (And.intro hV1 hV2))
 have a14 : bits .and .u8 (y14 : Int) 1 = 0 := and_even y14 y14b (by have := h14H.out; omega)
 clear hV hV1 hV2
 have f14 : w1.frozen? ⟨S, 14, none⟩ = false := by obtain ⟨C, -, hs⟩ := hd1H.out.scr; exact frozenOf hs 14
 have hd2 := hd1H.out.storeS 14 0
 have hk2 : Keeps (fun x => x = D ∨ x = S) w (w1.setCell ⟨S, 14, none⟩ (.int .u8 0)).drew := (hk1.out.setCell _ _ (fun _ => .inr rfl)).drew
 have hcy2 : ∀ j, j < 15 → (w1.setCell ⟨S, 14, none⟩ (.int .u8 0)).drew.cell? ⟨S, j, none⟩ = some (.int .u8 (y j : Int)) := fun j hj => by
  show (w1.setCell ⟨S, 14, none⟩ (.int .u8 0)).cell? ⟨S, j, none⟩ = _
  by_cases e : j = 14
  ·subst e
   rw [cell_set_same cc14, hyH.out 14, Nat.div_eq_of_lt hYH.out]
   rfl
  ·rw [cell_set_ne (by simp [e])]
   exact hcy.out j (by omega)
 obtain ⟨wd, hwd⟩ : ∃ x, (w1.setCell ⟨S, 14, none⟩ (.int .u8 0)).drew = x := ⟨_, rfl⟩
 have hd2' : DecAt wd base D S rb ro n c tr dfv emp (k + 16) := by rw [← hwd]; exact ⟨hd2.dec, hd2.scr, hd2.lo, hd2.tra⟩
 rw [hwd] at hk2 hcy2
 have hwdH := Lib.hid hwd
 have hs2 := Lib.hid (And.intro hd2' (And.intro hk2 hcy2))
 clear hwd hd2 hd2' hk2 hcy2
 go_wp2_with fail
 go_region
 go_wp2_with fail
 rw [hwdH.out]
 clear cc14 cc15 d1 d2 d3 i0 i1 i2 i3 i4 i5 i6 a14 hor f14 hcy hcH hk1 hd1H hVH hwdH h15H h14H
 obtain ⟨w1, hw1⟩ : ∃ x, x = wd := ⟨_, rfl⟩
 subst hw1
 obtain ⟨hd1, hk, hcy⟩ := hs2.out
 have hk1 := Lib.hid hk
 have hd1' := Lib.hid hd1
 have hcy' := Lib.hid hcy
 have hPH := Lib.hid (show 15 = 14 + 1 from rfl)
 have hZH := Lib.hid (show Y = Y from rfl)
 have hYP := Lib.hid (show Y < 256 ^ 15 from Nat.lt_of_lt_of_le hYH.out (Nat.pow_le_pow_right (by omega) (by omega)))
 have hcP : w1.cell? ⟨S, 14, none⟩ = some (.int .u8 (y 14 : Int)) := hcy 14 (by omega)
 have hcPH := Lib.hid hcP
 clear hk hd1 hcy hs2
 go_loopw [10] (fun i wr => ∃ q : Nat, q ≤ 14 ∧ i = .int .i64 q ∧ wr = w1 ∧ Y < 256 ^ (q + 1)) (fun i _ => (intOf i).toNat)
 case atStart => exact ⟨14, Nat.le_refl _, rfl, rfl, by rw [← hPH.out]; exact hYP.out⟩
 case round =>
  obtain ⟨q, hqP, rfl, hw1, hYq⟩ := hrel
  obtain rfl := hw1.symm
  replace hYq := Lib.hid hYq
  by_cases hq0 : q = 0
  ·have hqP := Lib.hid hqP
   have r1 : ¬ (0 : Int) < q := by omega
   replace hq0 := Lib.hid hq0
   obtain ⟨nW, hnW⟩ : ∃ x, q / 8 + 1 = x := ⟨_, rfl⟩
   have e8 : (q : Int) / 8 + 1 = (nW : Int) := by omega
   have hn2 : nW ≤ 2 := by have := hPH.out; have := hqP.out; omega
   have hmk := makeWs nW (by omega) w1
   have hkA := (Keeps.refl (fun _ => False) w1).alloc (.cells (madeCells #[Value.int .u64 0] nW) 225 (0, 0))
   have hB0 := blk_zeros w1 nW
   obtain ⟨Q, hQ⟩ : ∃ x, q + 1 = x := ⟨_, rfl⟩
   have eQ : (q : Int) + 1 = (Q : Int) := by omega
   have q1 : (Q : Int) ≤ 4096 := by have := hPH.out; have := hqP.out; omega
   have hQs : Q ≤ 15 := by have := hPH.out; have := hqP.out; omega
   generalize w1.alloc (.cells (madeCells #[Value.int .u64 0] nW) 225 (0, 0)) = wA at *
   have hnWH := Lib.hid hnW
   have hkAH := Lib.hid hkA
   have hB0H := Lib.hid hB0
   have hQH := Lib.hid hQ
   clear hnW hkA hB0 hQ hcP
   go_wp2_with fail
   obtain ⟨g, hg⟩ : ∃ g, g = w1.heap.size := ⟨_, rfl⟩
   rw [← hg] at hB0H ⊢
   replace hg := Lib.hid hg
   go_loopw [86] (fun ix wr => ∃ i : Nat, i ≤ Q ∧ ix = .int .i64 i ∧ Blk wr g (rowN nW (Y % 256 ^ i)) ∧ Keeps (fun k => k = g) wA wr) (fun ix _ => Q - (intOf ix).toNat)
   case atStart => exact ⟨0, Nat.zero_le _, rfl, by rw [Nat.pow_zero, Nat.mod_one, rowN_zero]; exact hB0H.out, Keeps.refl _ _⟩
   case round =>
    obtain ⟨i, hi, rfl, hB, hkp⟩ := hrel
    by_cases hlt : i < Q
    ·have s0 : (i : Int) < Q := by omega
     have hsl : S ≠ g := by have := hg.out; have := hDS.out.2; have := hk1.out.size; omega
     have hci := hkp.cellS (hkAH.out.cellS (hcy'.out i (by omega)) (fun h => h)) hsl
     obtain ⟨t, ht⟩ : ∃ t, i / 8 = t := ⟨_, rfl⟩
     obtain ⟨m, hm⟩ : ∃ m, i % 8 = m := ⟨_, rfl⟩
     have htm : i = 8 * t + m := by omega
     have hm8 : m < 8 := by omega
     have htn : t < nW := by have := hnWH.out; have := hQH.out; omega
     have s1 : (i : Int) / 8 = (t : Int) := by omega
     have s2 : (i : Int) % 8 = (m : Int) := by omega
     have s3 : (t : Int) < nW := by omega
     have s4 : (0 : Int) ≤ t := by omega
     have s6 : IntKind.i64.wrap (t : Int) = (t : Int) := by rw [IntKind.wrap_i64]; omega
     obtain ⟨X, hX⟩ : ∃ X, Y % 256 ^ i = X := ⟨_, rfl⟩
     have hXl : X < 256 ^ (8 * t + m) := by rw [← hX, ← htm]; exact Nat.mod_lt _ (Nat.pow_pos (by omega))
     obtain ⟨b, hb⟩ : ∃ b, Y / 256 ^ i % 256 = b := ⟨_, rfl⟩
     have hb256 : b < 256 := by rw [← hb]; exact Nat.mod_lt _ (by omega)
     have hbv : (y i : Int) = (b : Int) := by rw [hyH.out i, ← hb]
     have hXn : Y % 256 ^ (i + 1) = X + b * 256 ^ (8 * t + m) := by rw [Nat.mod_pow_succ, hX, hb, ← htm, Nat.mul_comm]
     rw [hX] at hB
     have hcw := hB.cell t (by rw [rowN_length]; exact htn)
     rw [rowN_get] at hcw
     have hor := or_byte X b t m hm8 hXl hb256
     have hst := hB.set t (X / WB ^ t % WB + b * 256 ^ m)
     rw [rowN_step nW X b t m hm8 hXl hb256 htn, ← hXn] at hst
     have hfz := frozenOf hB t
     rw [hbv] at hci
     skip
     have hstH := Lib.hid (And.intro hst (hkp.setCell ⟨g, t, none⟩ (.int .u64 ((X / WB ^ t % WB + b * 256 ^ m : Nat) : Int)) (fun _ => rfl)))
     have s7 : (i : Int).tmod 8 = (m : Int) := by rw [Int.tmod_eq_emod_of_nonneg (by omega)]; exact s2
     obtain ⟨M, hM⟩ : ∃ M, 8 * m = M := ⟨_, rfl⟩
     have s8 : IntKind.i64.wrap ((m : Int) * 8) = (M : Int) := by rw [IntKind.wrap_i64]; omega
     have s9 : IntKind.u64.wrap (b : Int) = (b : Int) := by rw [IntKind.wrap_u64]; omega
     have s10 := shlI (show M ≤ 64 by omega) b
     have s10' := shlI' M b
     have e10 : shlN b M = b * 256 ^ m := by
      unfold shlN
      rw [← hM, Nat.pow_mul]
      refine Nat.mod_eq_of_lt ?_
      have h1 : b * 256 ^ m < 256 * 256 ^ m := Nat.mul_lt_mul_of_pos_right hb256 (Nat.pow_pos (by omega))
      have h2 : 256 * 256 ^ m ≤ WB := by
       rw [WB_eq, ← Nat.pow_succ']
       exact Nat.pow_le_pow_right (n := 256) (by omega) (show m + 1 ≤ 8 by omega)
      exact Nat.lt_of_lt_of_le h1 h2
     rw [e10] at s10 s10'
     have hmv := Lib.hid (And.intro ht (And.intro hm htm))
     generalize X / WB ^ t % WB + b * 256 ^ m = wn at *
     generalize X / WB ^ t % WB = wo_ at *
     generalize b * 256 ^ m = bm at *
     have s11 : (0 : Int) ≤ M := by omega
     have s12 : ¬ (M : Int) < 0 := by omega
     clear hst s2 e10 hM hb256 hm8 htn hXn hXl hX hb hbv hB hkp ht hm htm
     go_wp2_with fail
     skip
     refine start_ (n := 14) (S := fun W => W.cell? ⟨g, t, none⟩ = some (.int .u64 (wo_ : Int))) (ds := [13]) z19 (by kernel_rfl) rfl rfl hcw (fun hHeld => ?_)
     refine stq 0 91 z20 ?_
     refine stq 1 92 z21 ?_
     refine stq 2 93 z22 ?_
     refine stq 3 94 z23 ?_
     refine take_ (i := 4) (N := some 95) (v := ?_) (a' := ?_) z24 rfl rfl (by kernel_rfl) (fun _ _ _ h => h) (Or.inl ⟨by rfl, ?_⟩) hHeld ?_ ?_
     rotate_left
     ·rintro w' s0; go_simp; try with_reducible rfl
     rotate_left
     ·simp only [Act.put, sA, sB, sC]; rfl
     refine stq 5 96 z25 ?_
     refine stq 6 97 z26 ?_
     refine stq 7 98 z27 ?_
     refine stq 8 99 z28 ?_
     refine stq 9 100 z29 ?_
     refine stq 10 101 z30 ?_
     refine stq 11 102 z31 ?_
     refine stq 12 103 z32 ?_
     refine last_ (i := 13) (N := none) z33 rfl rfl (by kernel_rfl) (by decide) (fun K hK => ?_)
     refine skip_ (w1 := ?_) (by rfl) rfl ?_ ?_
     rotate_left
     ·go_simp; try rfl
     refine hK.out _ _ ?_
     clear hK K
     refine done_ (by kernel_rfl) ?_
     go_wp2_with fail
     go_roundw
     case rel => exact ⟨i + 1, by omega, by go_num, hstH.out.1, hstH.out.2.drew⟩
     case measure => simp [intOf]; omega
    ·obtain rfl : i = Q := by omega
     have hZl : Y < 256 ^ i := by rw [← hQH.out]; exact hYq.out
     rw [Nat.mod_eq_of_lt hZl] at hB
     have hrl : (rowN nW Y).length = nW := rowN_length nW Y
     have hZW : Y < WB ^ nW := Nat.lt_of_lt_of_le hZl (by rw [WB_pow]; exact Nat.pow_le_pow_right (by omega) (by have := hnWH.out; have := hQH.out; omega))
     have hgs := hg.out
     have hgl : g < wr.heap.size := hB.lt
     have hsz1 := hk1.out.size
     have kI := (Keeps.refl (fun _ => False) wr).alloc (.cells #[.bool false, .slice none 0 0] 139)
     have hB1 := hB.kept kI (fun h => h)
     have hSB := intSetBits_any (wr.alloc (.cells #[.bool false, .slice none 0 0] 139)) w1.heap.size wr.heap.size 0 0 g false (.slice none 0 0) (rowN nW Y) (newAt _ _) hB1 (by omega) (rowN_words nW Y) (by have := hnWH.out; omega) (by omega)
     rw [hrl, rowN_val nW Y hZW] at hSB
     replace hSB := Lib.hid hSB
     have kA : Keeps (fun x => x = D ∨ x = S) w wr := ((hk1.out.trans hkAH.out (fun _ _ h => h.elim)).trans hkp (fun k hk e => by omega))
     have dA : Keeps (fun _ => False) w1 wr := hkAH.out.trans hkp (fun k hk e => by omega)
     have hfin := Lib.hid (And.intro (kA.trans kI (fun _ _ h => h.elim)) (dA.trans kI (fun _ _ h => h.elim)))
     have hwl := Lib.hid (And.intro (show w.heap.size ≤ w1.heap.size from hk1.out.size) (show w1.heap.size ≤ wr.heap.size from dA.size))
     clear hB hZl hZW hB1 kI kA dA hgs hrl hgl hsz1
     go_wp2_with fail
     refine hSB.out.mono ?_
     rintro e w3 ⟨v3, rfl, hm3, hk3⟩
     obtain ⟨hw1l, hw2l⟩ := hwl.out
     have kA3 : Keeps (fun x => x = D ∨ x = S) w w3 := hfin.out.1.trans hk3 (fun k hk e => by omega)
     have dA3 : Keeps (fun _ => False) w1 w3 := hfin.out.2.trans hk3 (fun k hk e => by omega)
     generalize wr.heap.size = gm at *
     have hd3 := hd1'.out.keep dA3 id id
     have hsl := Lib.hid (And.intro hw1l hw2l)
     cases s
     ·have hend := Lib.hid (show IntAt w3 w.heap.size gm 0 (decide (Y ≠ 0) && false) v3 Y ∧ w.heap.size ≤ gm ∧ DecAt w3 base D S rb ro n c tr dfv emp (k + 16) ∧ Keeps (fun x => x = D ∨ x = S) w w3 from ⟨by rw [Bool.and_false]; exact hm3.lower hw1l, by omega, hd3, kA3⟩)
      clear hm3 hk3 kA3 dA3 hw1l hw2l hSB hfin hwl hd3
      go_wp2_with fail
      refine bodyPost_ret (v := .tuple #[.pointer (some ⟨gm, 0, none⟩), .int .i64 ((X : Int) - 6176), .nilIface]) (by simp [results, Tryz.results188, go_sem]) rfl ?_
      exact ⟨gm, v3, rfl, hend.out⟩
     ·obtain ⟨bz, hbz⟩ : ∃ b, decide (Y ≠ 0) = b := ⟨_, rfl⟩
      have hN := intNegSelf_any w3 w1.heap.size gm 0 Y false v3 hm3
      rw [show (decide (Y ≠ 0) && !false) = bz by rw [hbz, Bool.not_false, Bool.and_true]] at hN
      replace hN := Lib.hid hN
      have hm6 := (hm3.self bz).at_
      have hst : Keeps (fun k => k = gm) w3 (w3.setCell ⟨gm, 0, none⟩ (.bool bz)) := (Keeps.refl (fun k => k = gm) w3).setCell _ _ (fun _ => rfl)
      have hgw3 := hm3.known.lt
      have k6 : Keeps (fun x => x = D ∨ x = S) w (w3.setCell ⟨gm, 0, none⟩ (.bool bz)) := kA3.trans hst (fun k hk e => by omega)
      have d6 : Keeps (fun _ => False) w1 (w3.setCell ⟨gm, 0, none⟩ (.bool bz)) := dA3.trans hst (fun k hk e => by omega)
      have hend := Lib.hid (show IntAt (w3.setCell ⟨gm, 0, none⟩ (.bool bz)) w.heap.size gm 0 (decide (Y ≠ 0) && true) v3 Y ∧ w.heap.size ≤ gm ∧ DecAt (w3.setCell ⟨gm, 0, none⟩ (.bool bz)) base D S rb ro n c tr dfv emp (k + 16) ∧ Keeps (fun x => x = D ∨ x = S) w (w3.setCell ⟨gm, 0, none⟩ (.bool bz)) from ⟨by rw [Bool.and_true, hbz]; exact hm6.lower hw1l, by omega, hd1'.out.keep d6 id id, k6⟩)
      clear hbz hm6 hst k6 d6 hm3 hk3 kA3 dA3 hw1l hw2l hSB hfin hwl hd3
      go_wp2_with fail
      refine hN.out.mono ?_
      rintro e w6 ⟨rfl, rfl⟩
      go_wp2_with fail
      refine bodyPost_ret (v := .tuple #[.pointer (some ⟨gm, 0, none⟩), .int .i64 ((X : Int) - 6176), .nilIface]) (by simp [results, Tryz.results188, go_sem]) rfl ?_
      exact ⟨gm, v3, rfl, hend.out⟩
  ·have r1 : (0 : Int) < q := by omega
   have r2 : (q : Int) < 15 := by have := hPH.out; omega
   have r3 : (0 : Int) ≤ q := by omega
   have hcq := hcy'.out q (by have := hPH.out; omega)
   by_cases hy0 : y q = 0
   ·rw [hy0] at hcq
    have hYn := Lib.hid (show Y < 256 ^ (q - 1 + 1) by
     have h1 := hYq.out
     have h2 := hyH.out q
     rw [hy0] at h2
     rw [show q - 1 + 1 = q by omega]
     rw [Nat.pow_succ] at h1
     have h3 : Y / 256 ^ q < 256 := (Nat.div_lt_iff_lt_mul (Nat.pow_pos (by omega))).2 (by rw [Nat.mul_comm]; exact h1)
     have h4 : Y / 256 ^ q = 0 := by
      generalize Y / 256 ^ q = u at h2 h3
      omega
     exact (Nat.div_eq_zero_iff_lt (Nat.pow_pos (by omega))).1 h4)
    have r4 : (q : Int) - 1 = ((q - 1 : Nat) : Int) := by omega
    have hqP' := Lib.hid (show q - 1 ≤ 14 by omega)
    clear hYq hqP
    go_wp2_with fail
    go_roundw
    case rel => exact ⟨q - 1, hqP'.out, by go_num, by first | rfl | trivial, hYn.out⟩
    case measure => simp [intOf]; omega
   ·have r5 : ¬ (y q : Int) = 0 := by omega
    have r6 : ((y q : Int) == 0) = false := beq_eq_false_iff_ne.2 r5
    replace hqP := Lib.hid hqP
    have hq0 := Lib.hid hq0
    obtain ⟨nW, hnW⟩ : ∃ x, q / 8 + 1 = x := ⟨_, rfl⟩
    have e8 : (q : Int) / 8 + 1 = (nW : Int) := by omega
    have hn2 : nW ≤ 2 := by have := hPH.out; have := hqP.out; omega
    have hmk := makeWs nW (by omega) w1
    have hkA := (Keeps.refl (fun _ => False) w1).alloc (.cells (madeCells #[Value.int .u64 0] nW) 225 (0, 0))
    have hB0 := blk_zeros w1 nW
    obtain ⟨Q, hQ⟩ : ∃ x, q + 1 = x := ⟨_, rfl⟩
    have eQ : (q : Int) + 1 = (Q : Int) := by omega
    have q1 : (Q : Int) ≤ 4096 := by have := hPH.out; have := hqP.out; omega
    have hQs : Q ≤ 15 := by have := hPH.out; have := hqP.out; omega
    generalize w1.alloc (.cells (madeCells #[Value.int .u64 0] nW) 225 (0, 0)) = wA at *
    have hnWH := Lib.hid hnW
    have hkAH := Lib.hid hkA
    have hB0H := Lib.hid hB0
    have hQH := Lib.hid hQ
    clear hnW hkA hB0 hQ hcP
    go_wp2_with fail
    obtain ⟨g, hg⟩ : ∃ g, g = w1.heap.size := ⟨_, rfl⟩
    rw [← hg] at hB0H ⊢
    replace hg := Lib.hid hg
    go_loopw [86] (fun ix wr => ∃ i : Nat, i ≤ Q ∧ ix = .int .i64 i ∧ Blk wr g (rowN nW (Y % 256 ^ i)) ∧ Keeps (fun k => k = g) wA wr) (fun ix _ => Q - (intOf ix).toNat)
    case atStart => exact ⟨0, Nat.zero_le _, rfl, by rw [Nat.pow_zero, Nat.mod_one, rowN_zero]; exact hB0H.out, Keeps.refl _ _⟩
    case round =>
     obtain ⟨i, hi, rfl, hB, hkp⟩ := hrel
     by_cases hlt : i < Q
     ·have s0 : (i : Int) < Q := by omega
      have hsl : S ≠ g := by have := hg.out; have := hDS.out.2; have := hk1.out.size; omega
      have hci := hkp.cellS (hkAH.out.cellS (hcy'.out i (by omega)) (fun h => h)) hsl
      obtain ⟨t, ht⟩ : ∃ t, i / 8 = t := ⟨_, rfl⟩
      obtain ⟨m, hm⟩ : ∃ m, i % 8 = m := ⟨_, rfl⟩
      have htm : i = 8 * t + m := by omega
      have hm8 : m < 8 := by omega
      have htn : t < nW := by have := hnWH.out; have := hQH.out; omega
      have s1 : (i : Int) / 8 = (t : Int) := by omega
      have s2 : (i : Int) % 8 = (m : Int) := by omega
      have s3 : (t : Int) < nW := by omega
      have s4 : (0 : Int) ≤ t := by omega
      have s6 : IntKind.i64.wrap (t : Int) = (t : Int) := by rw [IntKind.wrap_i64]; omega
      obtain ⟨X, hX⟩ : ∃ X, Y % 256 ^ i = X := ⟨_, rfl⟩
      have hXl : X < 256 ^ (8 * t + m) := by rw [← hX, ← htm]; exact Nat.mod_lt _ (Nat.pow_pos (by omega))
      obtain ⟨b, hb⟩ : ∃ b, Y / 256 ^ i % 256 = b := ⟨_, rfl⟩
      have hb256 : b < 256 := by rw [← hb]; exact Nat.mod_lt _ (by omega)
      have hbv : (y i : Int) = (b : Int) := by rw [hyH.out i, ← hb]
      have hXn : Y % 256 ^ (i + 1) = X + b * 256 ^ (8 * t + m) := by rw [Nat.mod_pow_succ, hX, hb, ← htm, Nat.mul_comm]
      rw [hX] at hB
      have hcw := hB.cell t (by rw [rowN_length]; exact htn)
      rw [rowN_get] at hcw
      have hor := or_byte X b t m hm8 hXl hb256
      have hst := hB.set t (X / WB ^ t % WB + b * 256 ^ m)
      rw [rowN_step nW X b t m hm8 hXl hb256 htn, ← hXn] at hst
      have hfz := frozenOf hB t
      rw [hbv] at hci
      skip
      have hstH := Lib.hid (And.intro hst (hkp.setCell ⟨g, t, none⟩ (.int .u64 ((X / WB ^ t % WB + b * 256 ^ m : Nat) : Int)) (fun _ => rfl)))
      have s7 : (i : Int).tmod 8 = (m : Int) := by rw [Int.tmod_eq_emod_of_nonneg (by omega)]; exact s2
      obtain ⟨M, hM⟩ : ∃ M, 8 * m = M := ⟨_, rfl⟩
      have s8 : IntKind.i64.wrap ((m : Int) * 8) = (M : Int) := by rw [IntKind.wrap_i64]; omega
      have s9 : IntKind.u64.wrap (b : Int) = (b : Int) := by rw [IntKind.wrap_u64]; omega
      have s10 := shlI (show M ≤ 64 by omega) b
      have s10' := shlI' M b
      have e10 : shlN b M = b * 256 ^ m := by
       unfold shlN
       rw [← hM, Nat.pow_mul]
       refine Nat.mod_eq_of_lt ?_
       have h1 : b * 256 ^ m < 256 * 256 ^ m := Nat.mul_lt_mul_of_pos_right hb256 (Nat.pow_pos (by omega))
       have h2 : 256 * 256 ^ m ≤ WB := by
        rw [WB_eq, ← Nat.pow_succ']
        exact Nat.pow_le_pow_right (n := 256) (by omega) (show m + 1 ≤ 8 by omega)
       exact Nat.lt_of_lt_of_le h1 h2
      rw [e10] at s10 s10'
      have hmv := Lib.hid (And.intro ht (And.intro hm htm))
      generalize X / WB ^ t % WB + b * 256 ^ m = wn at *
      generalize X / WB ^ t % WB = wo_ at *
      generalize b * 256 ^ m = bm at *
      have s11 : (0 : Int) ≤ M := by omega
      have s12 : ¬ (M : Int) < 0 := by omega
      clear hst s2 e10 hM hb256 hm8 htn hXn hXl hX hb hbv hB hkp ht hm htm
      go_wp2_with fail
      skip
      refine start_ (n := 14) (S := fun W => W.cell? ⟨g, t, none⟩ = some (.int .u64 (wo_ : Int))) (ds := [13]) z19 (by kernel_rfl) rfl rfl hcw (fun hHeld => ?_)
      refine stq 0 91 z20 ?_
      refine stq 1 92 z21 ?_
      refine stq 2 93 z22 ?_
      refine stq 3 94 z23 ?_
      refine take_ (i := 4) (N := some 95) (v := ?_) (a' := ?_) z24 rfl rfl (by kernel_rfl) (fun _ _ _ h => h) (Or.inl ⟨by rfl, ?_⟩) hHeld ?_ ?_
      rotate_left
      ·rintro w' s0; go_simp; try with_reducible rfl
      rotate_left
      ·simp only [Act.put, sA, sB, sC]; rfl
      refine stq 5 96 z25 ?_
      refine stq 6 97 z26 ?_
      refine stq 7 98 z27 ?_
      refine stq 8 99 z28 ?_
      refine stq 9 100 z29 ?_
      refine stq 10 101 z30 ?_
      refine stq 11 102 z31 ?_
      refine stq 12 103 z32 ?_
      refine last_ (i := 13) (N := none) z33 rfl rfl (by kernel_rfl) (by decide) (fun K hK => ?_)
      refine skip_ (w1 := ?_) (by rfl) rfl ?_ ?_
      rotate_left
      ·go_simp; try rfl
      refine hK.out _ _ ?_
      clear hK K
      refine done_ (by kernel_rfl) ?_
      go_wp2_with fail
      go_roundw
      case rel => exact ⟨i + 1, by omega, by go_num, hstH.out.1, hstH.out.2.drew⟩
      case measure => simp [intOf]; omega
     ·obtain rfl : i = Q := by omega
      have hZl : Y < 256 ^ i := by rw [← hQH.out]; exact hYq.out
      rw [Nat.mod_eq_of_lt hZl] at hB
      have hrl : (rowN nW Y).length = nW := rowN_length nW Y
      have hZW : Y < WB ^ nW := Nat.lt_of_lt_of_le hZl (by rw [WB_pow]; exact Nat.pow_le_pow_right (by omega) (by have := hnWH.out; have := hQH.out; omega))
      have hgs := hg.out
      have hgl : g < wr.heap.size := hB.lt
      have hsz1 := hk1.out.size
      have kI := (Keeps.refl (fun _ => False) wr).alloc (.cells #[.bool false, .slice none 0 0] 139)
      have hB1 := hB.kept kI (fun h => h)
      have hSB := intSetBits_any (wr.alloc (.cells #[.bool false, .slice none 0 0] 139)) w1.heap.size wr.heap.size 0 0 g false (.slice none 0 0) (rowN nW Y) (newAt _ _) hB1 (by omega) (rowN_words nW Y) (by have := hnWH.out; omega) (by omega)
      rw [hrl, rowN_val nW Y hZW] at hSB
      replace hSB := Lib.hid hSB
      have kA : Keeps (fun x => x = D ∨ x = S) w wr := ((hk1.out.trans hkAH.out (fun _ _ h => h.elim)).trans hkp (fun k hk e => by omega))
      have dA : Keeps (fun _ => False) w1 wr := hkAH.out.trans hkp (fun k hk e => by omega)
      have hfin := Lib.hid (And.intro (kA.trans kI (fun _ _ h => h.elim)) (dA.trans kI (fun _ _ h => h.elim)))
      have hwl := Lib.hid (And.intro (show w.heap.size ≤ w1.heap.size from hk1.out.size) (show w1.heap.size ≤ wr.heap.size from dA.size))
      clear hB hZl hZW hB1 kI kA dA hgs hrl hgl hsz1
      go_wp2_with fail
      refine hSB.out.mono ?_
      rintro e w3 ⟨v3, rfl, hm3, hk3⟩
      obtain ⟨hw1l, hw2l⟩ := hwl.out
      have kA3 : Keeps (fun x => x = D ∨ x = S) w w3 := hfin.out.1.trans hk3 (fun k hk e => by omega)
      have dA3 : Keeps (fun _ => False) w1 w3 := hfin.out.2.trans hk3 (fun k hk e => by omega)
      generalize wr.heap.size = gm at *
      have hd3 := hd1'.out.keep dA3 id id
      have hsl := Lib.hid (And.intro hw1l hw2l)
      cases s
      ·have hend := Lib.hid (show IntAt w3 w.heap.size gm 0 (decide (Y ≠ 0) && false) v3 Y ∧ w.heap.size ≤ gm ∧ DecAt w3 base D S rb ro n c tr dfv emp (k + 16) ∧ Keeps (fun x => x = D ∨ x = S) w w3 from ⟨by rw [Bool.and_false]; exact hm3.lower hw1l, by omega, hd3, kA3⟩)
       clear hm3 hk3 kA3 dA3 hw1l hw2l hSB hfin hwl hd3
       go_wp2_with fail
       refine bodyPost_ret (v := .tuple #[.pointer (some ⟨gm, 0, none⟩), .int .i64 ((X : Int) - 6176), .nilIface]) (by simp [results, Tryz.results188, go_sem]) rfl ?_
       exact ⟨gm, v3, rfl, hend.out⟩
      ·obtain ⟨bz, hbz⟩ : ∃ b, decide (Y ≠ 0) = b := ⟨_, rfl⟩
       have hN := intNegSelf_any w3 w1.heap.size gm 0 Y false v3 hm3
       rw [show (decide (Y ≠ 0) && !false) = bz by rw [hbz, Bool.not_false, Bool.and_true]] at hN
       replace hN := Lib.hid hN
       have hm6 := (hm3.self bz).at_
       have hst : Keeps (fun k => k = gm) w3 (w3.setCell ⟨gm, 0, none⟩ (.bool bz)) := (Keeps.refl (fun k => k = gm) w3).setCell _ _ (fun _ => rfl)
       have hgw3 := hm3.known.lt
       have k6 : Keeps (fun x => x = D ∨ x = S) w (w3.setCell ⟨gm, 0, none⟩ (.bool bz)) := kA3.trans hst (fun k hk e => by omega)
       have d6 : Keeps (fun _ => False) w1 (w3.setCell ⟨gm, 0, none⟩ (.bool bz)) := dA3.trans hst (fun k hk e => by omega)
       have hend := Lib.hid (show IntAt (w3.setCell ⟨gm, 0, none⟩ (.bool bz)) w.heap.size gm 0 (decide (Y ≠ 0) && true) v3 Y ∧ w.heap.size ≤ gm ∧ DecAt (w3.setCell ⟨gm, 0, none⟩ (.bool bz)) base D S rb ro n c tr dfv emp (k + 16) ∧ Keeps (fun x => x = D ∨ x = S) w (w3.setCell ⟨gm, 0, none⟩ (.bool bz)) from ⟨by rw [Bool.and_true, hbz]; exact hm6.lower hw1l, by omega, hd1'.out.keep d6 id id, k6⟩)
       clear hbz hm6 hst k6 d6 hm3 hk3 kA3 dA3 hw1l hw2l hSB hfin hwl hd3
       go_wp2_with fail
       refine hN.out.mono ?_
       rintro e w6 ⟨rfl, rfl⟩
       go_wp2_with fail
       refine bodyPost_ret (v := .tuple #[.pointer (some ⟨gm, 0, none⟩), .int .i64 ((X : Int) - 6176), .nilIface]) (by simp [results, Tryz.results188, go_sem]) rfl ?_
       exact ⟨gm, v3, rfl, hend.out⟩
end Go.Proofs.YtgamldefngehlaaGreatDoor
namespace Go.Proofs.YtgamldefngehlaaGreatDoor
open Go.RowKit
set_option maxRecDepth 100000 in
set_option maxHeartbeats 1000000 in
theorem ratSetInt_any (w : World) (base bm g gm M : Nat) (s : Bool) (mv : Value) (hr : RatAt w base g false false (.slice none 0 0) (.slice none 0 0) 0 0) (hm : IntAt w bm gm 0 s mv M) (hne : gm ≠ g) (hB : base ≤ w.heap.size) (hl : (digs WB M).length ≤ 900) :
  Calls Tryz.prog 243 #[.pointer (some ⟨g, 0, none⟩), .pointer (some ⟨gm, 0, none⟩)] w fun e w' => ∃ v u, e = .returned (.pointer (some ⟨g, 0, none⟩)) ∧ RatAt w' base g s false v u M 1 ∧ Keeps (fun k => k = g) w w' := by
 have hA := Lib.hid (intSet_any w base bm g 0 gm 0 0 M false s _ _ hr.num hm (by simp [hne.symm]) hB (by omega))
 have hrH := Lib.hid hr
 clear hr hm
 go_enter Tryz.func243, Tryz.ntmps243
 go_wp2_with fail
 refine hA.out.mono ?_
 rintro e w1 ⟨v, rfl, ho⟩
 have hr1 : RatAt w1 base g s false v (.slice none 0 0) M 0 := ⟨ho.at_, hrH.out.den.other hrH.out.num ho (.inr (.inl (Nat.le_refl _))) (fun k hk => by simp [Value.ownBlock] at hk), fun k hk e => by simp [Value.ownBlock] at e⟩
 have hS := Lib.hid (setWord_any w1 base (.slice none 0 0) [] 1 (.nil _ _) WB_one (Nat.le_trans hB ho.keep.size))
 have hk1 : Keeps (fun k => k = g) w w1 := ho.keep.mono (fun k _ e => e.elim id (fun e => by simp [Value.ownBlock] at e))
 have hown := Lib.hid (fun k hk => (ho.own k hk).resolve_left (by simp [Value.ownBlock]))
 have c3 := hr1.den.abs
 have hr1H := Lib.hid hr1
 have hk1 := Lib.hid hk1
 clear ho hr1
 go_wp2_with fail
 refine hS.out.mono ?_
 rintro e w2 ⟨u, rfl, ho2⟩
 obtain ⟨pu, ku, rfl⟩ := NatRow.form ho2.row
 obtain ⟨m1, m2⟩ := midRat hr1H.out ho2 (.inr rfl) 3 _ c3
 have hfin := Lib.hid (hr1H.out.putDen ho2)
 clear ho2 c3
 go_wp2_with fail
 go_ret
 exact ⟨v, _, rfl, hfin.out.at_, hk1.out.trans hfin.out.keep (fun k hk e => by
  rcases e with e | e | e
  ·exact e
  ·have := hown.out k e; omega
  ·simp [Value.ownBlock] at e)⟩
theorem RatAt.setB {w w' : World} {base g n d d' : Nat} {s t t' : Bool} {v u u' : Value} (h : RatAt w base g s t v u n d) (ho : IntOut w w' base g 2 u t' u' d') : RatAt w' base g s t' v u' n d' :=
 ⟨h.num.other h.den ho (.inr (.inr (Nat.le_refl _))) h.ap, ho.at_, ho.apart (n := 0) (s := false) h.num.nat h.ap⟩
theorem RatAt.setA {w w' : World} {base g n d n' : Nat} {s t s' : Bool} {v u v' : Value} (h : RatAt w base g s t v u n d) (ho : IntOut w w' base g 0 v s' v' n') : RatAt w' base g s' t v' u n' d :=
 ⟨ho.at_, h.den.other h.num ho (.inr (.inl (Nat.le_refl _))) (fun k h1 h2 => h.ap k h2 h1), fun k h1 h2 => ho.apart (n := 0) (s := false) h.den.nat (fun k h1 h2 => h.ap k h2 h1) k h2 h1⟩
theorem RatAt.fresh {w w' : World} {base g n d : Nat} {s t : Bool} {v u : Value} (h : RatAt w base g s t v u n d) (hk : Keeps (fun _ => False) w w') : RatAt w' base g s t v u n d := h.kept hk (fun h => h) (fun _ _ h => h) (fun _ _ h => h)
theorem IntOut.keepF {w0 w w' : World} {base g o n m : Nat} {s t : Bool} {zv v : Value} {xs : List Nat} (ho : IntOut w w' base g o zv s v n) (hk : Keeps (fun _ => False) w0 w) (hg : w0.heap.size ≤ g) (hr : NatRow w base zv xs) (hb : w0.heap.size ≤ base) : Keeps (fun _ => False) w0 w' :=
 hk.trans ho.keep (fun k hk e => e.elim (fun e => by omega) (fun e => by have := (NatRow.lt hr k e).1; omega))
set_option maxRecDepth 100000 in
set_option maxHeartbeats 1000000 in
theorem decToRat_any (w : World) (bm gm M : Nat) (E : Int) (s : Bool) (mv : Value) (hm : IntAt w bm gm 0 s mv M) (hs : s = true → M ≠ 0) (hE : -130 ≤ E ∧ E ≤ 130) (hl : (digs WB M).length ≤ 4) (hg : Thr w) (hGL : GL ≤ w.heap.size) :
  Calls Tryz.prog 189 #[.pointer (some ⟨gm, 0, none⟩), .int .i64 E] w fun e w' => ∃ g v u, e = .returned (.pointer (some ⟨g, 0, none⟩)) ∧ RatNew w w' g s v u (M * 10 ^ E.toNat) (10 ^ (-E).toNat) := by
 have k0 := (Keeps.refl (fun _ => False) w).alloc (.cells #[.bool false, .slice none 0 0, .bool false, .slice none 0 0] 141)
 have hml := hm.known.lt
 have hS := Lib.hid (ratSetInt_any _ w.heap.size bm w.heap.size gm M s mv (newRatAt w w.heap.size) (hm.kept k0 (fun h => h) (fun _ _ h => h)) (by omega) k0.size (by omega))
 have k0 := Lib.hid k0
 have hgg := Lib.hid (And.intro hg hGL)
 clear hm hg hGL
 go_enter Tryz.func189, Tryz.ntmps189
 go_wp2_with fail
 refine hS.out.mono ?_
 rintro e w1 ⟨v, u, rfl, hr1, hk1⟩
 have hkw : Keeps (fun _ => False) w w1 := k0.out.trans hk1 (fun k hk e => by omega)
 have hN := Lib.hid (ratNum_any w1 w.heap.size)
 have hD := Lib.hid (ratDenom_any w1 w.heap.size w.heap.size M 1 s false v u hr1 (by omega))
 have hr1H := Lib.hid hr1
 have hkwH := Lib.hid hkw
 have hThr := Lib.hid (fun (W : World) (hk : Keeps (fun _ => False) w W) => (show Thr W ∧ GL ≤ W.heap.size from ⟨hgg.out.1.kept hk (fun _ _ h => h), Nat.le_trans hgg.out.2 hk.size⟩))
 obtain ⟨gc, hgc⟩ : ∃ x, w.heap.size = x := ⟨_, rfl⟩
 rw [hgc] at hN hD
 clear hk1 hkw hr1 hS
 rw [hgc]
 go_wp2_with fail
 refine hN.out.mono ?_
 rintro e w2 ⟨rfl, hw2⟩
 obtain rfl := hw2.symm
 go_wp2_with fail
 refine hD.out.mono ?_
 rintro e w2 ⟨rfl, hw2⟩
 obtain rfl := hw2.symm
 have hgcH := Lib.hid hgc
 have hr1 := hr1H.out
 have hkw := hkwH.out
 have hgl1 := hr1.num.known.lt
 rw [hgc] at hr1 hgl1
 by_cases h1 : E < 0
 ·obtain ⟨k, hk⟩ : ∃ k : Nat, E * -1 = (k : Int) := ⟨(E * -1).toNat, by omega⟩
  have hkb : k ≤ 130 := by omega
  have hE10 := Lib.hid (exp10_any w1 k (by omega) (len_ten hkb) (hThr.out w1 hkw).1 (hThr.out w1 hkw).2)
  have hke := Lib.hid (show E.toNat = 0 ∧ (-E).toNat = k by omega)
  clear hgc
  go_wp2_with fail
  refine hE10.out.mono ?_
  rintro e w3 ⟨g3, v3, rfl, hn3⟩
  have hr3 := hr1.fresh hn3.keep
  have hk3 := hkw.trans hn3.keep (fun _ _ h => h)
  have hge3 := hn3.ge
  have hSt := Lib.hid (intSet_any w3 gc w1.heap.size gc 2 g3 0 1 (10 ^ k) false false u v3 hr3.den hn3.at_ (fun e => by injection e; omega) (by have := hk3.size; have := hgcH.out; omega) (by have := len_ten hkb; omega))
  have hr3 := Lib.hid hr3
  have hk3 := Lib.hid hk3
  clear hn3
  go_wp2_with fail
  refine hSt.out.mono ?_
  rintro e w4 ⟨u4, rfl, ho4⟩
  have hfin := Lib.hid (And.intro (hr3.out.setB ho4) (ho4.keepF (m := 0) (t := false) hk3.out (by have := hgcH.out; omega) hr3.out.den.nat (by have := hgcH.out; omega)))
  clear ho4
  go_wp2_with fail
  go_ret
  rw [hke.out.1, hke.out.2, Nat.pow_zero, Nat.mul_one]
  exact ⟨gc, v, u4, rfl, by rw [hgcH.out]; exact hfin.out.1, hfin.out.2, by rw [hgcH.out]; exact Nat.le_refl _⟩
 ·by_cases h2 : E = 0
  ·have t0 : (E == 0) = true := by simp [h2]
   have hke := Lib.hid (show E.toNat = 0 ∧ (-E).toNat = 0 by omega)
   clear hgc
   go_wp2_with fail
   refine (encNatOne_any w1).mono ?_
   rintro e w3 ⟨g3, v3, rfl, hn3⟩
   have hr3 := hr1.fresh hn3.keep
   have hk3 := hkw.trans hn3.keep (fun _ _ h => h)
   have hge3 := hn3.ge
   have hSt := Lib.hid (intSet_any w3 gc w1.heap.size gc 2 g3 0 1 1 false false u v3 hr3.den hn3.at_ (fun e => by injection e; omega) (by have := hk3.size; have := hgcH.out; omega) (by rw [digs_small WB_one (by omega) WB_one]; simp))
   have hr3 := Lib.hid hr3
   have hk3 := Lib.hid hk3
   clear hn3
   go_wp2_with fail
   refine hSt.out.mono ?_
   rintro e w4 ⟨u4, rfl, ho4⟩
   have hfin := Lib.hid (And.intro (hr3.out.setB ho4) (ho4.keepF (m := 0) (t := false) hk3.out (by have := hgcH.out; omega) hr3.out.den.nat (by have := hgcH.out; omega)))
   clear ho4
   go_wp2_with fail
   go_ret
   rw [hke.out.1, hke.out.2, Nat.pow_zero, Nat.mul_one]
   exact ⟨gc, v, u4, rfl, by rw [hgcH.out]; exact hfin.out.1, hfin.out.2, by rw [hgcH.out]; exact Nat.le_refl _⟩
  ·have h3 : 0 < E := by omega
   have t0 : (E == 0) = false := by simp [h2]
   obtain ⟨k, hk⟩ : ∃ k : Nat, E = (k : Int) := ⟨E.toNat, by omega⟩
   have hkb : k ≤ 130 := by omega
   have hke := Lib.hid (show E.toNat = k ∧ (-E).toNat = 0 by omega)
   have hE10 := exp10_any w1 k (by omega) (len_ten hkb) (hThr.out w1 hkw).1 (hThr.out w1 hkw).2
   have hE10 := Lib.hid hE10
   clear hgc
   subst hk
   go_wp2_with fail
   refine hE10.out.mono ?_
   rintro e w3 ⟨g3, v3, rfl, hn3⟩
   have hr3 := hr1.fresh hn3.keep
   have hk3 := hkw.trans hn3.keep (fun _ _ h => h)
   have hge3 := hn3.ge
   have hMu := Lib.hid (intMul_any w3 gc gc w1.heap.size gc 0 gc 0 g3 0 M M (10 ^ k) s s false v v v3 hr3.num hr3.num hn3.at_ (fun e => by injection e; omega) (by have := hk3.size; have := hgcH.out; omega) (hThr.out w3 hk3).1 (by have := hgg.out.2; have := hgcH.out; omega) (by omega) (by have := len_ten hkb; omega))
   have hr3 := Lib.hid hr3
   have hk3 := Lib.hid hk3
   clear hn3
   go_wp2_with fail
   refine hMu.out.mono ?_
   rintro e w4 ⟨v4, rfl, ho4⟩
   have hr4 := hr3.out.setA ho4
   have hk4 := ho4.keepF (m := 0) (t := false) hk3.out (by have := hgcH.out; omega) hr3.out.num.nat (by have := hgcH.out; omega)
   have hsg : (decide (M * 10 ^ k ≠ 0) && (s != false)) = s := by
    cases s
    ·simp
    ·have := Nat.mul_ne_zero (hs rfl) (Nat.pos_iff_ne_zero.1 (ten_pos k))
     simp [this]
   rw [hsg] at hr4
   have hr4 := Lib.hid hr4
   have hk4 := Lib.hid hk4
   clear ho4 hsg
   go_wp2_with fail
   refine (encNatOne_any w4).mono ?_
   rintro e w5 ⟨g5, v5, rfl, hn5⟩
   have hr5 := hr4.out.fresh hn5.keep
   have hk5 := hk4.out.trans hn5.keep (fun _ _ h => h)
   have hge5 := hn5.ge
   have hgl4 := hr4.out.num.known.lt
   have hSt := Lib.hid (intSet_any w5 gc w4.heap.size gc 2 g5 0 1 1 false false u v5 hr5.den hn5.at_ (fun e => by injection e; omega) (by have := hk5.size; have := hgcH.out; omega) (by rw [digs_small WB_one (by omega) WB_one]; simp))
   have hr5 := Lib.hid hr5
   have hk5 := Lib.hid hk5
   clear hn5
   go_wp2_with fail
   refine hSt.out.mono ?_
   rintro e w6 ⟨u6, rfl, ho6⟩
   have hfin := Lib.hid (And.intro (hr5.out.setB ho6) (ho6.keepF (m := 0) (t := false) hk5.out (by have := hgcH.out; omega) hr5.out.den.nat (by have := hgcH.out; omega)))
   clear ho6
   go_wp2_with fail
   go_ret
   rw [hke.out.1, hke.out.2, Nat.pow_zero]
   exact ⟨gc, v4, u6, rfl, by rw [hgcH.out]; exact hfin.out.1, hfin.out.2, by rw [hgcH.out]; exact Nat.le_refl _⟩
set_option maxRecDepth 100000 in
set_option maxHeartbeats 1000000 in
theorem decFieldD_any (w : World) (base D S rb ro n c : Nat) (tr : Value) (dfv emp : Bool) (k : Nat) (bs : List Int) (s : Bool) (Y X y14 y15 : Nat) (y : Nat → Nat) (hX : 6116 ≤ X ∧ X < 6271) (h14 : y14 = 2 * (X % 128)) (h15 : X / 128 + (if s = true then 128 else 0) = y15)
  (hb : ∀ j (h : k + j < bs.length), j < 14 → bs[k + j] = (y j : Int)) (hb14 : ∀ h : k + 14 < bs.length, bs[k + 14] = (y14 : Int)) (hb15 : ∀ h : k + 15 < bs.length, bs[k + 15] = (y15 : Int)) (hy : ∀ j, y j = Y / 256 ^ j % 256) (hY : Y < 256 ^ 14)
  (h : DecAt w base D S rb ro n c tr dfv emp k) (hin : Input w rb ro n c bs) (hkm : k + 16 ≤ n) (hg : Thr w) (hGL : GL ≤ w.heap.size) (hDG : GL ≤ D ∧ GL ≤ S) :
  Calls Tryz.prog 121 #[.pointer (some ⟨D, 0, none⟩)] w fun e w' =>
   ∃ g v u, e = .returned (.tuple #[.iface 93 (.pointer (some ⟨g, 0, none⟩)), .nilIface]) ∧ RatAt w' w.heap.size g (decide (Y ≠ 0) && s) false v u (Y * 10 ^ ((X : Int) - 6176).toNat) (10 ^ (-((X : Int) - 6176)).toNat) ∧ w.heap.size ≤ g ∧ DecAt w' base D S rb ro n c tr dfv emp (k + 16) ∧ Keeps (fun x => x = D ∨ x = S) w w' := by
 have hD := Lib.hid (decDec_any w base D S rb ro n c tr dfv emp k bs s Y X y14 y15 y hX h14 h15 hb hb14 hb15 hy hY h hin hkm)
 have hl : (digs WB Y).length ≤ 4 := (digs_length_le WB_one).2 (Nat.lt_of_lt_of_le hY (by rw [WB_eq]; decide +kernel))
 have hgg := Lib.hid (And.intro hg (And.intro hGL hDG))
 have hXH := Lib.hid hX
 clear h14 h15 hb hb14 hb15 hy hY h hin hg hGL hDG
 go_enter Tryz.func121, Tryz.ntmps121
 go_wp2_with fail
 refine hD.out.mono ?_
 rintro e w1 ⟨g1, v1, rfl, hm1, hge1, hd1, hk1⟩
 have hTh1 : Thr w1 := hgg.out.1.kept hk1 (fun k hk e => by have := hgg.out.2.2; omega)
 have hC := Lib.hid (decToRat_any w1 w.heap.size g1 Y ((X : Int) - 6176) (decide (Y ≠ 0) && s) v1 hm1 (fun h => by simp at h; exact h.1) (by have := hXH.out; omega) hl hTh1 (Nat.le_trans hgg.out.2.1 hk1.size))
 have hd1 := Lib.hid hd1
 have hk1 := Lib.hid hk1
 clear hm1 hTh1
 go_wp2_with fail
 refine hC.out.mono ?_
 rintro e w2 ⟨g2, v2, u2, rfl, hr2⟩
 have hfin := Lib.hid hr2
 clear hr2
 go_wp2_with fail
 go_ret2
 exact ⟨g2, v2, u2, rfl, ⟨hfin.out.at_.num.lower hk1.out.size, hfin.out.at_.den.lower hk1.out.size, hfin.out.at_.ap⟩, Nat.le_trans hk1.out.size hfin.out.ge, hd1.out.keep hfin.out.keep id id, hk1.out.trans hfin.out.keep (fun _ _ h => h.elim)⟩
end Go.Proofs.YtgamldefngehlaaGreatDoor
