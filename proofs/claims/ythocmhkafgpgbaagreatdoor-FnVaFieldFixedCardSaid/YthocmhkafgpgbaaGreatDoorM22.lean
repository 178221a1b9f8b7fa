/- Fixed numbers: the decoder. -/
import Derived.Test.YthocmhkafgpgbaaGreatDoorM10
import Derived.Test.YthocmhkafgpgbaaGreatDoorM18
import Derived.Test.YthocmhkafgpgbaaGreatDoorM20
import Derived.Test.YthocmhkafgpgbaaGreatDoorM21
set_option linter.unusedVariables false
set_option linter.unusedSimpArgs false
namespace Go.Proofs.YthocmhkafgpgbaaGreatDoor
open Go.RowKit
open Go.Proofs.YthocmhkafgpgbaaGreatDoorW.PrintLast
theorem makeWs (l : Nat) (hc : l ≤ 1000000) (w : World) :
  (Instr.makeSlice 140 (.int .i64 (l : Int)) (.int .i64 (l : Int))).run Tryz.prog w = .ok (.slice (some ⟨w.heap.size, 0, none⟩) l l) (w.alloc (.cells (madeCells #[Value.int .u64 0] l) 253 (0, 0))) := makeRun 140 Tryz.underlying140 l l (Nat.le_refl _) hc w
theorem notB {u : Nat} (h : u < 256) : bits .xor .u8 IntKind.u8.max (u : Int) = ((255 - u : Nat) : Int) :=
 (by decide +kernel : ∀ u : Fin 256, bits .xor .u8 IntKind.u8.max ((u.1 : Nat) : Int) = ((255 - u.1 : Nat) : Int)) ⟨u, h⟩
set_option maxRecDepth 100000 in
set_option maxHeartbeats 1000000 in
theorem decFixed_neg (w : World) (base D S rb ro n c : Nat) (tr : Value) (dfv emp : Bool) (k : Nat) (bs : List Int) (P size Y Z : Nat) (y : Nat → Nat) (hP : size = P + 1) (hsz : size = 8 ∨ size = 12 ∨ size = 16) (hb : ∀ j (h : k + j < bs.length), j < size → bs[k + j] = (y j : Int)) (hy : ∀ j, y j = Y / 256 ^ j % 256) (htop : y P = 255) (hY : Y < 256 ^ size) (hZ : Z = 256 ^ size - 1 - Y)
  (h : DecAt w base D S rb ro n c tr dfv emp k) (hin : Input w rb ro n c bs) (hkm : k + size ≤ n) :
  Calls Tryz.prog 243 #[.pointer (some ⟨D, 0, none⟩), .int .i64 size] w fun e w' =>
   ∃ g v, e = .returned (.pointer (some ⟨g, 0, none⟩)) ∧ IntAt w' w.heap.size g 0 true v (Z + 1) ∧ w.heap.size ≤ g ∧ DecAt w' base D S rb ro n c tr dfv emp (k + size) ∧ Keeps (fun x => x = D ∨ x = S) w w' := by
 obtain ⟨_, c3, _, _, _⟩ := h.cells
 have t1 : (size : Int) ≤ 4096 := by omega
 have t2 : (0 : Int) ≤ size := by omega
 have hR := Lib.hid (readScr w base D S rb ro n c tr dfv emp k bs h hin size 4096 (by omega) hkm)
 have hbH := Lib.hid hb
 have hln := Lib.hid (show k + size ≤ bs.length by have := hin.len; omega)
 have hyH := Lib.hid hy
 have hYH := Lib.hid hY
 have hZH := Lib.hid hZ
 have hPH := Lib.hid hP
 have eP : (size : Int) - 1 = (P : Int) := by omega
 have htH := Lib.hid htop
 have hDS := Lib.hid (And.intro (sizeOf_blk h.dec) (show S < w.heap.size by obtain ⟨C, -, hs⟩ := h.scr; exact sizeOf_blk hs))
 clear hb hy hY hZ hP htop
 go_enter Tryz.func243, Tryz.ntmps243
 go_wp2_with fail
 refine hR.out.mono ?_
 rintro e w1 ⟨rfl, hd1, hc, hk, hbl⟩
 have hcy : ∀ j, j < size → w1.cell? ⟨S, j, none⟩ = some (.int .u8 (y j : Int)) := fun j hj => by rw [hc j hj, hbH.out j (by have := hln.out; omega) hj]
 have hcP := hcy P (by have := hPH.out; omega)
 rw [htH.out] at hcP
 have hk1 := Lib.hid hk
 have hd1' := Lib.hid hd1
 have hcy' := Lib.hid hcy
 have p0 : (P : Int) < size := by have := hPH.out; omega
 have p1 : (0 : Int) ≤ P := by omega
 have p2 : (0 : Int) < P := by have := hPH.out; omega
 have hbit : (bits .and .u8 255 128 != 0) = true := by decide
 have hcPH := Lib.hid hcP
 clear hR c3 hc hk hbl hbH hln hd1 hcy h hin hkm
 go_wp2_with fail
 go_loopw [9] (fun i wr => i = .int .i64 P ∧ wr = w1) (fun _ _ => 0)
 case atStart => exact ⟨rfl, rfl⟩
 case round =>
  obtain ⟨rfl, hw1⟩ := hrel
  obtain rfl := hw1.symm
  have hcP := hcPH.out
  obtain ⟨q, hq⟩ : ∃ q, q = P := ⟨_, rfl⟩
  subst hq
  have hYq := Lib.hid (show Y < 256 ^ (q + 1) by rw [← hPH.out]; exact hYH.out)
  have hqP := Lib.hid (Nat.le_refl q)
  have hqPP := Lib.hid hPH.out
  obtain ⟨nW, hnW⟩ : ∃ x, q / 8 + 1 = x := ⟨_, rfl⟩
  have e8 : (q : Int) / 8 + 1 = (nW : Int) := by omega
  have hn2 : nW ≤ 2 := by have := hPH.out; have := hqP.out; omega
  have hmk := makeWs nW (by omega) w1
  have hkA := (Keeps.refl (fun _ => False) w1).alloc (.cells (madeCells #[Value.int .u64 0] nW) 253 (0, 0))
  have hB0 := blk_zeros w1 nW
  obtain ⟨Q, hQ⟩ : ∃ x, q + 1 = x := ⟨_, rfl⟩
  have eQ : (q : Int) + 1 = (Q : Int) := by omega
  have q1 : (Q : Int) ≤ 4096 := by have := hPH.out; have := hqP.out; omega
  have hQs : Q ≤ size := by have := hPH.out; have := hqP.out; omega
  generalize w1.alloc (.cells (madeCells #[Value.int .u64 0] nW) 253 (0, 0)) = wA at *
  have hnWH := Lib.hid hnW
  have hkAH := Lib.hid hkA
  have hB0H := Lib.hid hB0
  have hQH := Lib.hid hQ
  clear hnW hkA hB0 hQ hcP
  go_wp2_with fail
  obtain ⟨g, hg⟩ : ∃ g, g = w1.heap.size := ⟨_, rfl⟩
  rw [← hg] at hB0H ⊢
  replace hg := Lib.hid hg
  go_loopw [60] (fun ix wr => ∃ i : Nat, i ≤ Q ∧ ix = .int .i64 i ∧ Blk wr g (rowN nW (Z % 256 ^ i)) ∧ Keeps (fun k => k = g) wA wr) (fun ix _ => Q - (intOf ix).toNat)
  case atStart => exact ⟨0, Nat.zero_le _, rfl, by rw [Nat.pow_zero, Nat.mod_one, rowN_zero]; exact hB0H.out, Keeps.refl _ _⟩
  case round =>
   obtain ⟨i, hi, rfl, hB, hkp⟩ := hrel
   by_cases hlt : i < Q
   ·have s0 : (i : Int) < Q := by omega
    have hsl : S ≠ g := by have := hg.out; have := hDS.out.2; have := hk1.out.size; omega
    have hci := hkp.cellS (hkAH.out.cellS (hcy'.out i (by omega)) (fun h => h)) hsl
    obtain ⟨t, ht⟩ : ∃ t, i / 8 = t := ⟨_, rfl⟩
    obtain ⟨m, hm⟩ : ∃ m, i % 8 = m := ⟨_, rfl⟩
    have htm : i = 8 * t + m := by omega
    have hm8 : m < 8 := by omega
    have htn : t < nW := by have := hnWH.out; have := hQH.out; omega
    have s1 : (i : Int) / 8 = (t : Int) := by omega
    have s2 : (i : Int) % 8 = (m : Int) := by omega
    have s3 : (t : Int) < nW := by omega
    have s4 : (0 : Int) ≤ t := by omega
    have s6 : IntKind.i64.wrap (t : Int) = (t : Int) := by rw [IntKind.wrap_i64]; omega
    obtain ⟨X, hX⟩ : ∃ X, Z % 256 ^ i = X := ⟨_, rfl⟩
    have hXl : X < 256 ^ (8 * t + m) := by rw [← hX, ← htm]; exact Nat.mod_lt _ (Nat.pow_pos (by omega))
    obtain ⟨b, hb⟩ : ∃ b, Z / 256 ^ i % 256 = b := ⟨_, rfl⟩
    have hb256 : b < 256 := by rw [← hb]; exact Nat.mod_lt _ (by omega)
    have hbv : (y i : Int) = ((255 - b : Nat) : Int) := by
     have h1 := compl_byte size Y i hYH.out (by omega)
     rw [← hZH.out, hb, ← hyH.out i] at h1
     have h2 : y i < 256 := by rw [hyH.out i]; exact Nat.mod_lt _ (by omega)
     omega
    have hXn : Z % 256 ^ (i + 1) = X + b * 256 ^ (8 * t + m) := by rw [Nat.mod_pow_succ, hX, hb, ← htm, Nat.mul_comm]
    rw [hX] at hB
    have hcw := hB.cell t (by rw [rowN_length]; exact htn)
    rw [rowN_get] at hcw
    have hor := or_byte X b t m hm8 hXl hb256
    have hst := hB.set t (X / WB ^ t % WB + b * 256 ^ m)
    rw [rowN_step nW X b t m hm8 hXl hb256 htn, ← hXn] at hst
    have hfz := frozenOf hB t
    rw [hbv] at hci
    have eN := notB (show 255 - b < 256 by omega)
    rw [show 255 - (255 - b) = b by omega] at eN
    replace eN := Lib.hid eN
    have hstH := Lib.hid (And.intro hst (hkp.setCell ⟨g, t, none⟩ (.int .u64 ((X / WB ^ t % WB + b * 256 ^ m : Nat) : Int)) (fun _ => rfl)))
    have s7 : (i : Int).tmod 8 = (m : Int) := by rw [Int.tmod_eq_emod_of_nonneg (by omega)]; exact s2
    obtain ⟨M, hM⟩ : ∃ M, 8 * m = M := ⟨_, rfl⟩
    have s8 : IntKind.i64.wrap ((m : Int) * 8) = (M : Int) := by rw [IntKind.wrap_i64]; omega
    have s9 : IntKind.u64.wrap (b : Int) = (b : Int) := by rw [IntKind.wrap_u64]; omega
    have s10 := shlI (show M ≤ 64 by omega) b
    have s10' := shlI' M b
    have e10 : shlN b M = b * 256 ^ m := by
     unfold shlN
     rw [← hM, Nat.pow_mul]
     refine Nat.mod_eq_of_lt ?_
     have h1 : b * 256 ^ m < 256 * 256 ^ m := Nat.mul_lt_mul_of_pos_right hb256 (Nat.pow_pos (by omega))
     have h2 : 256 * 256 ^ m ≤ WB := by
      rw [WB_eq, ← Nat.pow_succ']
      exact Nat.pow_le_pow_right (n := 256) (by omega) (show m + 1 ≤ 8 by omega)
     exact Nat.lt_of_lt_of_le h1 h2
    rw [e10] at s10 s10'
    have hmv := Lib.hid (And.intro ht (And.intro hm htm))
    generalize X / WB ^ t % WB + b * 256 ^ m = wn at *
    generalize X / WB ^ t % WB = wo_ at *
    generalize b * 256 ^ m = bm at *
    have s11 : (0 : Int) ≤ M := by omega
    have s12 : ¬ (M : Int) < 0 := by omega
    clear hst s2 e10 hM hb256 hm8 htn hXn hXl hX hb hbv hB hkp ht hm htm
    go_wp2_with fail
    rw [eN.out]
    refine start_ (n := 14) (S := fun W => W.cell? ⟨g, t, none⟩ = some (.int .u64 (wo_ : Int))) (ds := [13]) z18 (by kernel_rfl) rfl rfl hcw (fun hHeld => ?_)
    refine pure_ (i := 0) (N := some 68) (v := ?_) (a' := ?_) z19 rfl rfl (by kernel_rfl) (fun _ _ _ h => h) (Or.inl ⟨by rfl, ?_⟩) ?_ ?_
    rotate_left
    ·intro w'; go_simp; try with_reducible rfl
    rotate_left
    ·simp only [Act.put, sA, sB, sC]; rfl
    refine pure_ (i := 1) (N := some 69) (v := ?_) (a' := ?_) z20 rfl rfl (by kernel_rfl) (fun _ _ _ h => h) (Or.inl ⟨by rfl, ?_⟩) ?_ ?_
    rotate_left
    ·intro w'; go_simp; try with_reducible rfl
    rotate_left
    ·simp only [Act.put, sA, sB, sC]; rfl
    refine pure_ (i := 2) (N := some 70) (v := ?_) (a' := ?_) z21 rfl rfl (by kernel_rfl) (fun _ _ _ h => h) (Or.inl ⟨by rfl, ?_⟩) ?_ ?_
    rotate_left
    ·intro w'; go_simp; try with_reducible rfl
    rotate_left
    ·simp only [Act.put, sA, sB, sC]; rfl
    refine pure_ (i := 3) (N := some 71) (v := ?_) (a' := ?_) z22 rfl rfl (by kernel_rfl) (fun _ _ _ h => h) (Or.inl ⟨by rfl, ?_⟩) ?_ ?_
    rotate_left
    ·intro w'; go_simp; try with_reducible rfl
    rotate_left
    ·simp only [Act.put, sA, sB, sC]; rfl
    refine take_ (i := 4) (N := some 72) (v := ?_) (a' := ?_) z23 rfl rfl (by kernel_rfl) (fun _ _ _ h => h) (Or.inl ⟨by rfl, ?_⟩) hHeld ?_ ?_
    rotate_left
    ·rintro w' s0; go_simp; try with_reducible rfl
    rotate_left
    ·simp only [Act.put, sA, sB, sC]; rfl
    refine pure_ (i := 5) (N := some 73) (v := ?_) (a' := ?_) z24 rfl rfl (by kernel_rfl) (fun _ _ _ h => h) (Or.inl ⟨by rfl, ?_⟩) ?_ ?_
    rotate_left
    ·intro w'; go_simp; try with_reducible rfl
    rotate_left
    ·simp only [Act.put, sA, sB, sC]; rfl
    refine pure_ (i := 6) (N := some 74) (v := ?_) (a' := ?_) z25 rfl rfl (by kernel_rfl) (fun _ _ _ h => h) (Or.inl ⟨by rfl, ?_⟩) ?_ ?_
    rotate_left
    ·intro w'; go_simp; try with_reducible rfl
    rotate_left
    ·simp only [Act.put, sA, sB, sC]; rfl
    refine pure_ (i := 7) (N := some 75) (v := ?_) (a' := ?_) z26 rfl rfl (by kernel_rfl) (fun _ _ _ h => h) (Or.inl ⟨by rfl, ?_⟩) ?_ ?_
    rotate_left
    ·intro w'; go_simp; try with_reducible rfl
    rotate_left
    ·simp only [Act.put, sA, sB, sC]; rfl
    refine pure_ (i := 8) (N := some 76) (v := ?_) (a' := ?_) z27 rfl rfl (by kernel_rfl) (fun _ _ _ h => h) (Or.inl ⟨by rfl, ?_⟩) ?_ ?_
    rotate_left
    ·intro w'; go_simp; try with_reducible rfl
    rotate_left
    ·simp only [Act.put, sA, sB, sC]; rfl
    refine pure_ (i := 9) (N := some 77) (v := ?_) (a' := ?_) z28 rfl rfl (by kernel_rfl) (fun _ _ _ h => h) (Or.inl ⟨by rfl, ?_⟩) ?_ ?_
    rotate_left
    ·intro w'; go_simp; try with_reducible rfl
    rotate_left
    ·simp only [Act.put, sA, sB, sC]; rfl
    refine pure_ (i := 10) (N := some 78) (v := ?_) (a' := ?_) z29 rfl rfl (by kernel_rfl) (fun _ _ _ h => h) (Or.inl ⟨by rfl, ?_⟩) ?_ ?_
    rotate_left
    ·intro w'; go_simp; try with_reducible rfl
    rotate_left
    ·simp only [Act.put, sA, sB, sC]; rfl
    refine pure_ (i := 11) (N := some 79) (v := ?_) (a' := ?_) z30 rfl rfl (by kernel_rfl) (fun _ _ _ h => h) (Or.inl ⟨by rfl, ?_⟩) ?_ ?_
    rotate_left
    ·intro w'; go_simp; try with_reducible rfl
    rotate_left
    ·simp only [Act.put, sA, sB, sC]; rfl
    refine pure_ (i := 12) (N := some 80) (v := ?_) (a' := ?_) z31 rfl rfl (by kernel_rfl) (fun _ _ _ h => h) (Or.inl ⟨by rfl, ?_⟩) ?_ ?_
    rotate_left
    ·intro w'; go_simp; try with_reducible rfl
    rotate_left
    ·simp only [Act.put, sA, sB, sC]; rfl
    refine last_ (i := 13) (N := none) z32 rfl rfl (by kernel_rfl) (by decide) (fun K hK => ?_)
    refine skip_ (w1 := ?_) (by rfl) rfl ?_ ?_
    rotate_left
    ·go_simp; try rfl
    refine hK.out _ _ ?_
    clear hK K
    refine done_ (by kernel_rfl) ?_
    go_wp2_with fail
    go_roundw
    case rel => exact ⟨i + 1, by omega, by go_num, hstH.out.1, hstH.out.2.drew⟩
    case measure => simp [intOf]; omega
   ·obtain rfl : i = Q := by omega
    have hZl : Z < 256 ^ i := by have h1 := hQH.out; have h2 := hPH.out; have h3 := hqPP.out; rw [hZH.out, show i = size by omega]; have := hYH.out; omega
    rw [Nat.mod_eq_of_lt hZl] at hB
    have hrl : (rowN nW Z).length = nW := rowN_length nW Z
    have hZW : Z < WB ^ nW := Nat.lt_of_lt_of_le hZl (by rw [WB_pow]; exact Nat.pow_le_pow_right (by omega) (by have := hnWH.out; have := hQH.out; omega))
    have hgs := hg.out
    have hgl : g < wr.heap.size := hB.lt
    have hsz1 := hk1.out.size
    have kI := (Keeps.refl (fun _ => False) wr).alloc (.cells #[.bool false, .slice none 0 0] 143)
    have hB1 := hB.kept kI (fun h => h)
    have hSB := intSetBits_any (wr.alloc (.cells #[.bool false, .slice none 0 0] 143)) w1.heap.size wr.heap.size 0 0 g false (.slice none 0 0) (rowN nW Z) (newAt _ _) hB1 (by omega) (rowN_words nW Z) (by have := hnWH.out; omega) (by omega)
    rw [hrl, rowN_val nW Z hZW] at hSB
    replace hSB := Lib.hid hSB
    have kA : Keeps (fun x => x = D ∨ x = S) w wr := ((hk1.out.trans hkAH.out (fun _ _ h => h.elim)).trans hkp (fun k hk e => by omega))
    have dA : Keeps (fun _ => False) w1 wr := hkAH.out.trans hkp (fun k hk e => by omega)
    have hfin := Lib.hid (And.intro (kA.trans kI (fun _ _ h => h.elim)) (dA.trans kI (fun _ _ h => h.elim)))
    have hwl := Lib.hid (And.intro (show w.heap.size ≤ w1.heap.size from hk1.out.size) (show w1.heap.size ≤ wr.heap.size from dA.size))
    clear hB hZl hZW hB1 kI kA dA hgs hrl hgl hsz1
    go_wp2_with fail
    refine hSB.out.mono ?_
    rintro e w3 ⟨v3, rfl, hm3, hk3⟩
    obtain ⟨hw1l, hw2l⟩ := hwl.out
    have kA3 : Keeps (fun x => x = D ∨ x = S) w w3 := hfin.out.1.trans hk3 (fun k hk e => by omega)
    have dA3 : Keeps (fun _ => False) w1 w3 := hfin.out.2.trans hk3 (fun k hk e => by omega)
    generalize wr.heap.size = gm at *
    have hO := Lib.hid (encNatOne_any w3)
    have hmH := Lib.hid hm3
    have kH := Lib.hid (And.intro kA3 dA3)
    have hw12 := Lib.hid (And.intro hw1l hw2l)
    clear hm3 hk3 kA3 dA3 hw1l hw2l hSB hfin hwl
    go_wp2_with fail
    refine hO.out.mono ?_
    rintro e w4 ⟨go, vo, rfl, hone⟩
    have hm4 := hmH.out.kept hone.keep (fun h => h) (fun _ _ h => h)
    have hs1 : w1.heap.size ≤ w4.heap.size := (kH.out.2.trans hone.keep (fun _ _ h => h)).size
    have hlZ : (digs WB Z).length ≤ 2 := (digs_length_le WB_one).2 (by have h1 := hZH.out; have h2 := hYH.out; have h3 : 256 ^ size ≤ WB ^ 2 := by { rw [WB_pow]; exact Nat.pow_le_pow_right (by omega) (by omega) }; omega)
    have hA := intAdd_raw w4 w1.heap.size w3.heap.size gm 0 go 0 1 v3 vo (digs WB Z) hm4.row hone.at_ hs1 (by omega) (by rw [digs_small WB_one (by omega) WB_one]; decide) (by omega)
    rw [val_digs WB_one] at hA
    replace hA := Lib.hid hA
    have k4 := Lib.hid (And.intro (kH.out.1.trans hone.keep (fun _ _ h => h.elim)) (kH.out.2.trans hone.keep (fun _ _ h => h)))
    have hvo : ∀ k, v3.ownBlock = some k → w1.heap.size ≤ k := fun k hk => (NatRow.lt hm4.nat k hk).1
    replace hvo := Lib.hid hvo
    clear hO hone hm4 hs1 hlZ
    go_wp2_with fail
    refine hA.out.mono ?_
    rintro e w5 ⟨v5, rfl, ho5⟩
    have hN := intNegSelf_any w5 w1.heap.size gm 0 (Z + 1) false v5 ho5.at_
    rw [show (decide (Z + 1 ≠ 0) && !false) = true by simp] at hN
    replace hN := Lib.hid hN
    have hm6 : IntAt (w5.setCell ⟨gm, 0, none⟩ (.bool true)) w1.heap.size gm 0 true v5 (Z + 1) := (ho5.at_.self true).at_
    have hst : Keeps (fun k => k = gm) w5 (w5.setCell ⟨gm, 0, none⟩ (.bool true)) := (Keeps.refl (fun k => k = gm) w5).setCell _ _ (fun _ => rfl)
    have k6 : Keeps (fun x => x = D ∨ x = S) w (w5.setCell ⟨gm, 0, none⟩ (.bool true)) := (k4.out.1.trans ho5.keep (fun k hk e => by have := hw12.out; rcases e with e | e; omega; have := hvo.out k e; omega)).trans hst (fun k hk e => by have := hw12.out; omega)
    have d6 : Keeps (fun _ => False) w1 (w5.setCell ⟨gm, 0, none⟩ (.bool true)) := (k4.out.2.trans ho5.keep (fun k hk e => by have := hw12.out; rcases e with e | e; omega; have := hvo.out k e; omega)).trans hst (fun k hk e => by have := hw12.out; omega)
    have hend := Lib.hid (show IntAt (w5.setCell ⟨gm, 0, none⟩ (.bool true)) w.heap.size gm 0 true v5 (Z + 1) ∧ w.heap.size ≤ gm ∧ DecAt (w5.setCell ⟨gm, 0, none⟩ (.bool true)) base D S rb ro n c tr dfv emp (k + size) ∧ Keeps (fun x => x = D ∨ x = S) w (w5.setCell ⟨gm, 0, none⟩ (.bool true)) from ⟨hm6.lower hw12.out.1, by have := hw12.out; omega, hd1'.out.keep d6 id id, k6⟩)
    clear hm6 hst k6 d6 ho5 hA hvo k4
    go_wp2_with fail
    refine hN.out.mono ?_
    rintro e w6 ⟨rfl, rfl⟩
    go_wp2_with fail
    go_ret
    exact ⟨gm, v5, rfl, hend.out⟩
set_option maxRecDepth 100000 in
set_option maxHeartbeats 1000000 in
theorem decFixed_pos (w : World) (base D S rb ro n c : Nat) (tr : Value) (dfv emp : Bool) (k : Nat) (bs : List Int) (P size Y Z : Nat) (y : Nat → Nat) (hP : size = P + 1) (hsz : size = 8 ∨ size = 12 ∨ size = 16) (hb : ∀ j (h : k + j < bs.length), j < size → bs[k + j] = (y j : Int)) (hy : ∀ j, y j = Y / 256 ^ j % 256) (htop : y P = 0) (hY : Y < 256 ^ size) (hZ : Z = Y)
  (h : DecAt w base D S rb ro n c tr dfv emp k) (hin : Input w rb ro n c bs) (hkm : k + size ≤ n) :
  Calls Tryz.prog 243 #[.pointer (some ⟨D, 0, none⟩), .int .i64 size] w fun e w' =>
   ∃ g v, e = .returned (.pointer (some ⟨g, 0, none⟩)) ∧ IntAt w' w.heap.size g 0 false v Z ∧ w.heap.size ≤ g ∧ DecAt w' base D S rb ro n c tr dfv emp (k + size) ∧ Keeps (fun x => x = D ∨ x = S) w w' := by
 obtain ⟨_, c3, _, _, _⟩ := h.cells
 have t1 : (size : Int) ≤ 4096 := by omega
 have t2 : (0 : Int) ≤ size := by omega
 have hR := Lib.hid (readScr w base D S rb ro n c tr dfv emp k bs h hin size 4096 (by omega) hkm)
 have hbH := Lib.hid hb
 have hln := Lib.hid (show k + size ≤ bs.length by have := hin.len; omega)
 have hyH := Lib.hid hy
 have hYH := Lib.hid hY
 have hZH := Lib.hid hZ
 have hPH := Lib.hid hP
 have eP : (size : Int) - 1 = (P : Int) := by omega
 have htH := Lib.hid htop
 have hDS := Lib.hid (And.intro (sizeOf_blk h.dec) (show S < w.heap.size by obtain ⟨C, -, hs⟩ := h.scr; exact sizeOf_blk hs))
 clear hb hy hY hZ hP htop
 go_enter Tryz.func243, Tryz.ntmps243
 go_wp2_with fail
 refine hR.out.mono ?_
 rintro e w1 ⟨rfl, hd1, hc, hk, hbl⟩
 have hcy : ∀ j, j < size → w1.cell? ⟨S, j, none⟩ = some (.int .u8 (y j : Int)) := fun j hj => by rw [hc j hj, hbH.out j (by have := hln.out; omega) hj]
 have hcP := hcy P (by have := hPH.out; omega)
 rw [htH.out] at hcP
 have hk1 := Lib.hid hk
 have hd1' := Lib.hid hd1
 have hcy' := Lib.hid hcy
 have p0 : (P : Int) < size := by have := hPH.out; omega
 have p1 : (0 : Int) ≤ P := by omega
 have p2 : (0 : Int) < P := by have := hPH.out; omega
 have hbit : (bits .and .u8 0 128 != 0) = false := by decide
 have hcPH := Lib.hid hcP
 clear hR c3 hc hk hbl hbH hln hd1 hcy h hin hkm
 go_wp2_with fail
 go_loopw [9] (fun i wr => ∃ q : Nat, q ≤ P ∧ i = .int .i64 q ∧ wr = w1 ∧ Y < 256 ^ (q + 1)) (fun i _ => (intOf i).toNat)
 case atStart => exact ⟨P, Nat.le_refl _, rfl, rfl, by rw [← hPH.out]; exact hYH.out⟩
 case round =>
  obtain ⟨q, hqP, rfl, hw1, hYq⟩ := hrel
  obtain rfl := hw1.symm
  replace hYq := Lib.hid hYq
  by_cases hq0 : q = 0
  ·have hqP := Lib.hid hqP
   have r1 : ¬ (0 : Int) < q := by omega
   replace hq0 := Lib.hid hq0
   obtain ⟨nW, hnW⟩ : ∃ x, q / 8 + 1 = x := ⟨_, rfl⟩
   have e8 : (q : Int) / 8 + 1 = (nW : Int) := by omega
   have hn2 : nW ≤ 2 := by have := hPH.out; have := hqP.out; omega
   have hmk := makeWs nW (by omega) w1
   have hkA := (Keeps.refl (fun _ => False) w1).alloc (.cells (madeCells #[Value.int .u64 0] nW) 253 (0, 0))
   have hB0 := blk_zeros w1 nW
   obtain ⟨Q, hQ⟩ : ∃ x, q + 1 = x := ⟨_, rfl⟩
   have eQ : (q : Int) + 1 = (Q : Int) := by omega
   have q1 : (Q : Int) ≤ 4096 := by have := hPH.out; have := hqP.out; omega
   have hQs : Q ≤ size := by have := hPH.out; have := hqP.out; omega
   generalize w1.alloc (.cells (madeCells #[Value.int .u64 0] nW) 253 (0, 0)) = wA at *
   have hnWH := Lib.hid hnW
   have hkAH := Lib.hid hkA
   have hB0H := Lib.hid hB0
   have hQH := Lib.hid hQ
   clear hnW hkA hB0 hQ hcP
   go_wp2_with fail
   obtain ⟨g, hg⟩ : ∃ g, g = w1.heap.size := ⟨_, rfl⟩
   rw [← hg] at hB0H ⊢
   replace hg := Lib.hid hg
   go_loopw [60] (fun ix wr => ∃ i : Nat, i ≤ Q ∧ ix = .int .i64 i ∧ Blk wr g (rowN nW (Z % 256 ^ i)) ∧ Keeps (fun k => k = g) wA wr) (fun ix _ => Q - (intOf ix).toNat)
   case atStart => exact ⟨0, Nat.zero_le _, rfl, by rw [Nat.pow_zero, Nat.mod_one, rowN_zero]; exact hB0H.out, Keeps.refl _ _⟩
   case round =>
    obtain ⟨i, hi, rfl, hB, hkp⟩ := hrel
    by_cases hlt : i < Q
    ·have s0 : (i : Int) < Q := by omega
     have hsl : S ≠ g := by have := hg.out; have := hDS.out.2; have := hk1.out.size; omega
     have hci := hkp.cellS (hkAH.out.cellS (hcy'.out i (by omega)) (fun h => h)) hsl
     obtain ⟨t, ht⟩ : ∃ t, i / 8 = t := ⟨_, rfl⟩
     obtain ⟨m, hm⟩ : ∃ m, i % 8 = m := ⟨_, rfl⟩
     have htm : i = 8 * t + m := by omega
     have hm8 : m < 8 := by omega
     have htn : t < nW := by have := hnWH.out; have := hQH.out; omega
     have s1 : (i : Int) / 8 = (t : Int) := by omega
     have s2 : (i : Int) % 8 = (m : Int) := by omega
     have s3 : (t : Int) < nW := by omega
     have s4 : (0 : Int) ≤ t := by omega
     have s6 : IntKind.i64.wrap (t : Int) = (t : Int) := by rw [IntKind.wrap_i64]; omega
     obtain ⟨X, hX⟩ : ∃ X, Z % 256 ^ i = X := ⟨_, rfl⟩
     have hXl : X < 256 ^ (8 * t + m) := by rw [← hX, ← htm]; exact Nat.mod_lt _ (Nat.pow_pos (by omega))
     obtain ⟨b, hb⟩ : ∃ b, Z / 256 ^ i % 256 = b := ⟨_, rfl⟩
     have hb256 : b < 256 := by rw [← hb]; exact Nat.mod_lt _ (by omega)
     have hbv : (y i : Int) = (b : Int) := by rw [hyH.out i, ← hZH.out, hb]
     have hXn : Z % 256 ^ (i + 1) = X + b * 256 ^ (8 * t + m) := by rw [Nat.mod_pow_succ, hX, hb, ← htm, Nat.mul_comm]
     rw [hX] at hB
     have hcw := hB.cell t (by rw [rowN_length]; exact htn)
     rw [rowN_get] at hcw
     have hor := or_byte X b t m hm8 hXl hb256
     have hst := hB.set t (X / WB ^ t % WB + b * 256 ^ m)
     rw [rowN_step nW X b t m hm8 hXl hb256 htn, ← hXn] at hst
     have hfz := frozenOf hB t
     rw [hbv] at hci
     skip
     have hstH := Lib.hid (And.intro hst (hkp.setCell ⟨g, t, none⟩ (.int .u64 ((X / WB ^ t % WB + b * 256 ^ m : Nat) : Int)) (fun _ => rfl)))
     have s7 : (i : Int).tmod 8 = (m : Int) := by rw [Int.tmod_eq_emod_of_nonneg (by omega)]; exact s2
     obtain ⟨M, hM⟩ : ∃ M, 8 * m = M := ⟨_, rfl⟩
     have s8 : IntKind.i64.wrap ((m : Int) * 8) = (M : Int) := by rw [IntKind.wrap_i64]; omega
     have s9 : IntKind.u64.wrap (b : Int) = (b : Int) := by rw [IntKind.wrap_u64]; omega
     have s10 := shlI (show M ≤ 64 by omega) b
     have s10' := shlI' M b
     have e10 : shlN b M = b * 256 ^ m := by
      unfold shlN
      rw [← hM, Nat.pow_mul]
      refine Nat.mod_eq_of_lt ?_
      have h1 : b * 256 ^ m < 256 * 256 ^ m := Nat.mul_lt_mul_of_pos_right hb256 (Nat.pow_pos (by omega))
      have h2 : 256 * 256 ^ m ≤ WB := by
       rw [WB_eq, ← Nat.pow_succ']
       exact Nat.pow_le_pow_right (n := 256) (by omega) (show m + 1 ≤ 8 by omega)
      exact Nat.lt_of_lt_of_le h1 h2
     rw [e10] at s10 s10'
     have hmv := Lib.hid (And.intro ht (And.intro hm htm))
     generalize X / WB ^ t % WB + b * 256 ^ m = wn at *
     generalize X / WB ^ t % WB = wo_ at *
     generalize b * 256 ^ m = bm at *
     have s11 : (0 : Int) ≤ M := by omega
     have s12 : ¬ (M : Int) < 0 := by omega
     clear hst s2 e10 hM hb256 hm8 htn hXn hXl hX hb hbv hB hkp ht hm htm
     go_wp2_with fail
     skip
     refine start_ (n := 14) (S := fun W => W.cell? ⟨g, t, none⟩ = some (.int .u64 (wo_ : Int))) (ds := [13]) z18 (by kernel_rfl) rfl rfl hcw (fun hHeld => ?_)
     refine pure_ (i := 0) (N := some 68) (v := ?_) (a' := ?_) z19 rfl rfl (by kernel_rfl) (fun _ _ _ h => h) (Or.inl ⟨by rfl, ?_⟩) ?_ ?_
     rotate_left
     ·intro w'; go_simp; try with_reducible rfl
     rotate_left
     ·simp only [Act.put, sA, sB, sC]; rfl
     refine pure_ (i := 1) (N := some 69) (v := ?_) (a' := ?_) z20 rfl rfl (by kernel_rfl) (fun _ _ _ h => h) (Or.inl ⟨by rfl, ?_⟩) ?_ ?_
     rotate_left
     ·intro w'; go_simp; try with_reducible rfl
     rotate_left
     ·simp only [Act.put, sA, sB, sC]; rfl
     refine pure_ (i := 2) (N := some 70) (v := ?_) (a' := ?_) z21 rfl rfl (by kernel_rfl) (fun _ _ _ h => h) (Or.inl ⟨by rfl, ?_⟩) ?_ ?_
     rotate_left
     ·intro w'; go_simp; try with_reducible rfl
     rotate_left
     ·simp only [Act.put, sA, sB, sC]; rfl
     refine pure_ (i := 3) (N := some 71) (v := ?_) (a' := ?_) z22 rfl rfl (by kernel_rfl) (fun _ _ _ h => h) (Or.inl ⟨by rfl, ?_⟩) ?_ ?_
     rotate_left
     ·intro w'; go_simp; try with_reducible rfl
     rotate_left
     ·simp only [Act.put, sA, sB, sC]; rfl
     refine take_ (i := 4) (N := some 72) (v := ?_) (a' := ?_) z23 rfl rfl (by kernel_rfl) (fun _ _ _ h => h) (Or.inl ⟨by rfl, ?_⟩) hHeld ?_ ?_
     rotate_left
     ·rintro w' s0; go_simp; try with_reducible rfl
     rotate_left
     ·simp only [Act.put, sA, sB, sC]; rfl
     refine pure_ (i := 5) (N := some 73) (v := ?_) (a' := ?_) z24 rfl rfl (by kernel_rfl) (fun _ _ _ h => h) (Or.inl ⟨by rfl, ?_⟩) ?_ ?_
     rotate_left
     ·intro w'; go_simp; try with_reducible rfl
     rotate_left
     ·simp only [Act.put, sA, sB, sC]; rfl
     refine pure_ (i := 6) (N := some 74) (v := ?_) (a' := ?_) z25 rfl rfl (by kernel_rfl) (fun _ _ _ h => h) (Or.inl ⟨by rfl, ?_⟩) ?_ ?_
     rotate_left
     ·intro w'; go_simp; try with_reducible rfl
     rotate_left
     ·simp only [Act.put, sA, sB, sC]; rfl
     refine pure_ (i := 7) (N := some 75) (v := ?_) (a' := ?_) z26 rfl rfl (by kernel_rfl) (fun _ _ _ h => h) (Or.inl ⟨by rfl, ?_⟩) ?_ ?_
     rotate_left
     ·intro w'; go_simp; try with_reducible rfl
     rotate_left
     ·simp only [Act.put, sA, sB, sC]; rfl
     refine pure_ (i := 8) (N := some 76) (v := ?_) (a' := ?_) z27 rfl rfl (by kernel_rfl) (fun _ _ _ h => h) (Or.inl ⟨by rfl, ?_⟩) ?_ ?_
     rotate_left
     ·intro w'; go_simp; try with_reducible rfl
     rotate_left
     ·simp only [Act.put, sA, sB, sC]; rfl
     refine pure_ (i := 9) (N := some 77) (v := ?_) (a' := ?_) z28 rfl rfl (by kernel_rfl) (fun _ _ _ h => h) (Or.inl ⟨by rfl, ?_⟩) ?_ ?_
     rotate_left
     ·intro w'; go_simp; try with_reducible rfl
     rotate_left
     ·simp only [Act.put, sA, sB, sC]; rfl
     refine pure_ (i := 10) (N := some 78) (v := ?_) (a' := ?_) z29 rfl rfl (by kernel_rfl) (fun _ _ _ h => h) (Or.inl ⟨by rfl, ?_⟩) ?_ ?_
     rotate_left
     ·intro w'; go_simp; try with_reducible rfl
     rotate_left
     ·simp only [Act.put, sA, sB, sC]; rfl
     refine pure_ (i := 11) (N := some 79) (v := ?_) (a' := ?_) z30 rfl rfl (by kernel_rfl) (fun _ _ _ h => h) (Or.inl ⟨by rfl, ?_⟩) ?_ ?_
     rotate_left
     ·intro w'; go_simp; try with_reducible rfl
     rotate_left
     ·simp only [Act.put, sA, sB, sC]; rfl
     refine pure_ (i := 12) (N := some 80) (v := ?_) (a' := ?_) z31 rfl rfl (by kernel_rfl) (fun _ _ _ h => h) (Or.inl ⟨by rfl, ?_⟩) ?_ ?_
     rotate_left
     ·intro w'; go_simp; try with_reducible rfl
     rotate_left
     ·simp only [Act.put, sA, sB, sC]; rfl
     refine last_ (i := 13) (N := none) z32 rfl rfl (by kernel_rfl) (by decide) (fun K hK => ?_)
     refine skip_ (w1 := ?_) (by rfl) rfl ?_ ?_
     rotate_left
     ·go_simp; try rfl
     refine hK.out _ _ ?_
     clear hK K
     refine done_ (by kernel_rfl) ?_
     go_wp2_with fail
     go_roundw
     case rel => exact ⟨i + 1, by omega, by go_num, hstH.out.1, hstH.out.2.drew⟩
     case measure => simp [intOf]; omega
    ·obtain rfl : i = Q := by omega
     have hZl : Z < 256 ^ i := by rw [hZH.out, ← hQH.out]; exact hYq.out
     rw [Nat.mod_eq_of_lt hZl] at hB
     have hrl : (rowN nW Z).length = nW := rowN_length nW Z
     have hZW : Z < WB ^ nW := Nat.lt_of_lt_of_le hZl (by rw [WB_pow]; exact Nat.pow_le_pow_right (by omega) (by have := hnWH.out; have := hQH.out; omega))
     have hgs := hg.out
     have hgl : g < wr.heap.size := hB.lt
     have hsz1 := hk1.out.size
     have kI := (Keeps.refl (fun _ => False) wr).alloc (.cells #[.bool false, .slice none 0 0] 143)
     have hB1 := hB.kept kI (fun h => h)
     have hSB := intSetBits_any (wr.alloc (.cells #[.bool false, .slice none 0 0] 143)) w1.heap.size wr.heap.size 0 0 g false (.slice none 0 0) (rowN nW Z) (newAt _ _) hB1 (by omega) (rowN_words nW Z) (by have := hnWH.out; omega) (by omega)
     rw [hrl, rowN_val nW Z hZW] at hSB
     replace hSB := Lib.hid hSB
     have kA : Keeps (fun x => x = D ∨ x = S) w wr := ((hk1.out.trans hkAH.out (fun _ _ h => h.elim)).trans hkp (fun k hk e => by omega))
     have dA : Keeps (fun _ => False) w1 wr := hkAH.out.trans hkp (fun k hk e => by omega)
     have hfin := Lib.hid (And.intro (kA.trans kI (fun _ _ h => h.elim)) (dA.trans kI (fun _ _ h => h.elim)))
     have hwl := Lib.hid (And.intro (show w.heap.size ≤ w1.heap.size from hk1.out.size) (show w1.heap.size ≤ wr.heap.size from dA.size))
     clear hB hZl hZW hB1 kI kA dA hgs hrl hgl hsz1
     go_wp2_with fail
     refine hSB.out.mono ?_
     rintro e w3 ⟨v3, rfl, hm3, hk3⟩
     obtain ⟨hw1l, hw2l⟩ := hwl.out
     have kA3 : Keeps (fun x => x = D ∨ x = S) w w3 := hfin.out.1.trans hk3 (fun k hk e => by omega)
     have dA3 : Keeps (fun _ => False) w1 w3 := hfin.out.2.trans hk3 (fun k hk e => by omega)
     generalize wr.heap.size = gm at *
     have hend := Lib.hid (show IntAt w3 w.heap.size gm 0 false v3 Z ∧ w.heap.size ≤ gm ∧ DecAt w3 base D S rb ro n c tr dfv emp (k + size) ∧ Keeps (fun x => x = D ∨ x = S) w w3 from ⟨hm3.lower hw1l, by omega, hd1'.out.keep dA3 id id, kA3⟩)
     clear hm3 hk3 kA3 dA3 hw1l hw2l hSB hfin hwl
     go_wp2_with fail
     go_ret
     exact ⟨gm, v3, rfl, hend.out⟩
  ·have r1 : (0 : Int) < q := by omega
   have r2 : (q : Int) < size := by have := hPH.out; omega
   have r3 : (0 : Int) ≤ q := by omega
   have hcq := hcy'.out q (by have := hPH.out; omega)
   by_cases hy0 : y q = 0
   ·rw [hy0] at hcq
    have hYn := Lib.hid (show Y < 256 ^ (q - 1 + 1) by
     have h1 := hYq.out
     have h2 := hyH.out q
     rw [hy0] at h2
     rw [show q - 1 + 1 = q by omega]
     rw [Nat.pow_succ] at h1
     have h3 : Y / 256 ^ q < 256 := (Nat.div_lt_iff_lt_mul (Nat.pow_pos (by omega))).2 (by rw [Nat.mul_comm]; exact h1)
     have h4 : Y / 256 ^ q = 0 := by
      generalize Y / 256 ^ q = u at h2 h3
      omega
     exact (Nat.div_eq_zero_iff_lt (Nat.pow_pos (by omega))).1 h4)
    have r4 : (q : Int) - 1 = ((q - 1 : Nat) : Int) := by omega
    have hqP' := Lib.hid (show q - 1 ≤ P by omega)
    clear hYq hqP
    go_wp2_with fail
    go_roundw
    case rel => exact ⟨q - 1, hqP'.out, by go_num, by first | rfl | trivial, hYn.out⟩
    case measure => simp [intOf]; omega
   ·have r5 : ¬ (y q : Int) = 0 := by omega
    have r6 : ((y q : Int) == 0) = false := beq_eq_false_iff_ne.2 r5
    replace hqP := Lib.hid hqP
    have hq0 := Lib.hid hq0
    obtain ⟨nW, hnW⟩ : ∃ x, q / 8 + 1 = x := ⟨_, rfl⟩
    have e8 : (q : Int) / 8 + 1 = (nW : Int) := by omega
    have hn2 : nW ≤ 2 := by have := hPH.out; have := hqP.out; omega
    have hmk := makeWs nW (by omega) w1
    have hkA := (Keeps.refl (fun _ => False) w1).alloc (.cells (madeCells #[Value.int .u64 0] nW) 253 (0, 0))
    have hB0 := blk_zeros w1 nW
    obtain ⟨Q, hQ⟩ : ∃ x, q + 1 = x := ⟨_, rfl⟩
    have eQ : (q : Int) + 1 = (Q : Int) := by omega
    have q1 : (Q : Int) ≤ 4096 := by have := hPH.out; have := hqP.out; omega
    have hQs : Q ≤ size := by have := hPH.out; have := hqP.out; omega
    generalize w1.alloc (.cells (madeCells #[Value.int .u64 0] nW) 253 (0, 0)) = wA at *
    have hnWH := Lib.hid hnW
    have hkAH := Lib.hid hkA
    have hB0H := Lib.hid hB0
    have hQH := Lib.hid hQ
    clear hnW hkA hB0 hQ hcP
    go_wp2_with fail
    obtain ⟨g, hg⟩ : ∃ g, g = w1.heap.size := ⟨_, rfl⟩
    rw [← hg] at hB0H ⊢
    replace hg := Lib.hid hg
    go_loopw [60] (fun ix wr => ∃ i : Nat, i ≤ Q ∧ ix = .int .i64 i ∧ Blk wr g (rowN nW (Z % 256 ^ i)) ∧ Keeps (fun k => k = g) wA wr) (fun ix _ => Q - (intOf ix).toNat)
    case atStart => exact ⟨0, Nat.zero_le _, rfl, by rw [Nat.pow_zero, Nat.mod_one, rowN_zero]; exact hB0H.out, Keeps.refl _ _⟩
    case round =>
     obtain ⟨i, hi, rfl, hB, hkp⟩ := hrel
     by_cases hlt : i < Q
     ·have s0 : (i : Int) < Q := by omega
      have hsl : S ≠ g := by have := hg.out; have := hDS.out.2; have := hk1.out.size; omega
      have hci := hkp.cellS (hkAH.out.cellS (hcy'.out i (by omega)) (fun h => h)) hsl
      obtain ⟨t, ht⟩ : ∃ t, i / 8 = t := ⟨_, rfl⟩
      obtain ⟨m, hm⟩ : ∃ m, i % 8 = m := ⟨_, rfl⟩
      have htm : i = 8 * t + m := by omega
      have hm8 : m < 8 := by omega
      have htn : t < nW := by have := hnWH.out; have := hQH.out; omega
      have s1 : (i : Int) / 8 = (t : Int) := by omega
      have s2 : (i : Int) % 8 = (m : Int) := by omega
      have s3 : (t : Int) < nW := by omega
      have s4 : (0 : Int) ≤ t := by omega
      have s6 : IntKind.i64.wrap (t : Int) = (t : Int) := by rw [IntKind.wrap_i64]; omega
      obtain ⟨X, hX⟩ : ∃ X, Z % 256 ^ i = X := ⟨_, rfl⟩
      have hXl : X < 256 ^ (8 * t + m) := by rw [← hX, ← htm]; exact Nat.mod_lt _ (Nat.pow_pos (by omega))
      obtain ⟨b, hb⟩ : ∃ b, Z / 256 ^ i % 256 = b := ⟨_, rfl⟩
      have hb256 : b < 256 := by rw [← hb]; exact Nat.mod_lt _ (by omega)
      have hbv : (y i : Int) = (b : Int) := by rw [hyH.out i, ← hZH.out, hb]
      have hXn : Z % 256 ^ (i + 1) = X + b * 256 ^ (8 * t + m) := by rw [Nat.mod_pow_succ, hX, hb, ← htm, Nat.mul_comm]
      rw [hX] at hB
      have hcw := hB.cell t (by rw [rowN_length]; exact htn)
      rw [rowN_get] at hcw
      have hor := or_byte X b t m hm8 hXl hb256
      have hst := hB.set t (X / WB ^ t % WB + b * 256 ^ m)
      rw [rowN_step nW X b t m hm8 hXl hb256 htn, ← hXn] at hst
      have hfz := frozenOf hB t
      rw [hbv] at hci
      skip
      have hstH := Lib.hid (And.intro hst (hkp.setCell ⟨g, t, none⟩ (.int .u64 ((X / WB ^ t % WB + b * 256 ^ m : Nat) : Int)) (fun _ => rfl)))
      have s7 : (i : Int).tmod 8 = (m : Int) := by rw [Int.tmod_eq_emod_of_nonneg (by omega)]; exact s2
      obtain ⟨M, hM⟩ : ∃ M, 8 * m = M := ⟨_, rfl⟩
      have s8 : IntKind.i64.wrap ((m : Int) * 8) = (M : Int) := by rw [IntKind.wrap_i64]; omega
      have s9 : IntKind.u64.wrap (b : Int) = (b : Int) := by rw [IntKind.wrap_u64]; omega
      have s10 := shlI (show M ≤ 64 by omega) b
      have s10' := shlI' M b
      have e10 : shlN b M = b * 256 ^ m := by
       unfold shlN
       rw [← hM, Nat.pow_mul]
       refine Nat.mod_eq_of_lt ?_
       have h1 : b * 256 ^ m < 256 * 256 ^ m := Nat.mul_lt_mul_of_pos_right hb256 (Nat.pow_pos (by omega))
       have h2 : 256 * 256 ^ m ≤ WB := by
        rw [WB_eq, ← Nat.pow_succ']
        exact Nat.pow_le_pow_right (n := 256) (by omega) (show m + 1 ≤ 8 by omega)
       exact Nat.lt_of_lt_of_le h1 h2
      rw [e10] at s10 s10'
      have hmv := Lib.hid (And.intro ht (And.intro hm htm))
      generalize X / WB ^ t % WB + b * 256 ^ m = wn at *
      generalize X / WB ^ t % WB = wo_ at *
      generalize b * 256 ^ m = bm at *
      have s11 : (0 : Int) ≤ M := by omega
      have s12 : ¬ (M : Int) < 0 := by omega
      clear hst s2 e10 hM hb256 hm8 htn hXn hXl hX hb hbv hB hkp ht hm htm
      go_wp2_with fail
      skip
      refine start_ (n := 14) (S := fun W => W.cell? ⟨g, t, none⟩ = some (.int .u64 (wo_ : Int))) (ds := [13]) z18 (by kernel_rfl) rfl rfl hcw (fun hHeld => ?_)
      refine pure_ (i := 0) (N := some 68) (v := ?_) (a' := ?_) z19 rfl rfl (by kernel_rfl) (fun _ _ _ h => h) (Or.inl ⟨by rfl, ?_⟩) ?_ ?_
      rotate_left
      ·intro w'; go_simp; try with_reducible rfl
      rotate_left
      ·simp only [Act.put, sA, sB, sC]; rfl
      refine pure_ (i := 1) (N := some 69) (v := ?_) (a' := ?_) z20 rfl rfl (by kernel_rfl) (fun _ _ _ h => h) (Or.inl ⟨by rfl, ?_⟩) ?_ ?_
      rotate_left
      ·intro w'; go_simp; try with_reducible rfl
      rotate_left
      ·simp only [Act.put, sA, sB, sC]; rfl
      refine pure_ (i := 2) (N := some 70) (v := ?_) (a' := ?_) z21 rfl rfl (by kernel_rfl) (fun _ _ _ h => h) (Or.inl ⟨by rfl, ?_⟩) ?_ ?_
      rotate_left
      ·intro w'; go_simp; try with_reducible rfl
      rotate_left
      ·simp only [Act.put, sA, sB, sC]; rfl
      refine pure_ (i := 3) (N := some 71) (v := ?_) (a' := ?_) z22 rfl rfl (by kernel_rfl) (fun _ _ _ h => h) (Or.inl ⟨by rfl, ?_⟩) ?_ ?_
      rotate_left
      ·intro w'; go_simp; try with_reducible rfl
      rotate_left
      ·simp only [Act.put, sA, sB, sC]; rfl
      refine take_ (i := 4) (N := some 72) (v := ?_) (a' := ?_) z23 rfl rfl (by kernel_rfl) (fun _ _ _ h => h) (Or.inl ⟨by rfl, ?_⟩) hHeld ?_ ?_
      rotate_left
      ·rintro w' s0; go_simp; try with_reducible rfl
      rotate_left
      ·simp only [Act.put, sA, sB, sC]; rfl
      refine pure_ (i := 5) (N := some 73) (v := ?_) (a' := ?_) z24 rfl rfl (by kernel_rfl) (fun _ _ _ h => h) (Or.inl ⟨by rfl, ?_⟩) ?_ ?_
      rotate_left
      ·intro w'; go_simp; try with_reducible rfl
      rotate_left
      ·simp only [Act.put, sA, sB, sC]; rfl
      refine pure_ (i := 6) (N := some 74) (v := ?_) (a' := ?_) z25 rfl rfl (by kernel_rfl) (fun _ _ _ h => h) (Or.inl ⟨by rfl, ?_⟩) ?_ ?_
      rotate_left
      ·intro w'; go_simp; try with_reducible rfl
      rotate_left
      ·simp only [Act.put, sA, sB, sC]; rfl
      refine pure_ (i := 7) (N := some 75) (v := ?_) (a' := ?_) z26 rfl rfl (by kernel_rfl) (fun _ _ _ h => h) (Or.inl ⟨by rfl, ?_⟩) ?_ ?_
      rotate_left
      ·intro w'; go_simp; try with_reducible rfl
      rotate_left
      ·simp only [Act.put, sA, sB, sC]; rfl
      refine pure_ (i := 8) (N := some 76) (v := ?_) (a' := ?_) z27 rfl rfl (by kernel_rfl) (fun _ _ _ h => h) (Or.inl ⟨by rfl, ?_⟩) ?_ ?_
      rotate_left
      ·intro w'; go_simp; try with_reducible rfl
      rotate_left
      ·simp only [Act.put, sA, sB, sC]; rfl
      refine pure_ (i := 9) (N := some 77) (v := ?_) (a' := ?_) z28 rfl rfl (by kernel_rfl) (fun _ _ _ h => h) (Or.inl ⟨by rfl, ?_⟩) ?_ ?_
      rotate_left
      ·intro w'; go_simp; try with_reducible rfl
      rotate_left
      ·simp only [Act.put, sA, sB, sC]; rfl
      refine pure_ (i := 10) (N := some 78) (v := ?_) (a' := ?_) z29 rfl rfl (by kernel_rfl) (fun _ _ _ h => h) (Or.inl ⟨by rfl, ?_⟩) ?_ ?_
      rotate_left
      ·intro w'; go_simp; try with_reducible rfl
      rotate_left
      ·simp only [Act.put, sA, sB, sC]; rfl
      refine pure_ (i := 11) (N := some 79) (v := ?_) (a' := ?_) z30 rfl rfl (by kernel_rfl) (fun _ _ _ h => h) (Or.inl ⟨by rfl, ?_⟩) ?_ ?_
      rotate_left
      ·intro w'; go_simp; try with_reducible rfl
      rotate_left
      ·simp only [Act.put, sA, sB, sC]; rfl
      refine pure_ (i := 12) (N := some 80) (v := ?_) (a' := ?_) z31 rfl rfl (by kernel_rfl) (fun _ _ _ h => h) (Or.inl ⟨by rfl, ?_⟩) ?_ ?_
      rotate_left
      ·intro w'; go_simp; try with_reducible rfl
      rotate_left
      ·simp only [Act.put, sA, sB, sC]; rfl
      refine last_ (i := 13) (N := none) z32 rfl rfl (by kernel_rfl) (by decide) (fun K hK => ?_)
      refine skip_ (w1 := ?_) (by rfl) rfl ?_ ?_
      rotate_left
      ·go_simp; try rfl
      refine hK.out _ _ ?_
      clear hK K
      refine done_ (by kernel_rfl) ?_
      go_wp2_with fail
      go_roundw
      case rel => exact ⟨i + 1, by omega, by go_num, hstH.out.1, hstH.out.2.drew⟩
      case measure => simp [intOf]; omega
     ·obtain rfl : i = Q := by omega
      have hZl : Z < 256 ^ i := by rw [hZH.out, ← hQH.out]; exact hYq.out
      rw [Nat.mod_eq_of_lt hZl] at hB
      have hrl : (rowN nW Z).length = nW := rowN_length nW Z
      have hZW : Z < WB ^ nW := Nat.lt_of_lt_of_le hZl (by rw [WB_pow]; exact Nat.pow_le_pow_right (by omega) (by have := hnWH.out; have := hQH.out; omega))
      have hgs := hg.out
      have hgl : g < wr.heap.size := hB.lt
      have hsz1 := hk1.out.size
      have kI := (Keeps.refl (fun _ => False) wr).alloc (.cells #[.bool false, .slice none 0 0] 143)
      have hB1 := hB.kept kI (fun h => h)
      have hSB := intSetBits_any (wr.alloc (.cells #[.bool false, .slice none 0 0] 143)) w1.heap.size wr.heap.size 0 0 g false (.slice none 0 0) (rowN nW Z) (newAt _ _) hB1 (by omega) (rowN_words nW Z) (by have := hnWH.out; omega) (by omega)
      rw [hrl, rowN_val nW Z hZW] at hSB
      replace hSB := Lib.hid hSB
      have kA : Keeps (fun x => x = D ∨ x = S) w wr := ((hk1.out.trans hkAH.out (fun _ _ h => h.elim)).trans hkp (fun k hk e => by omega))
      have dA : Keeps (fun _ => False) w1 wr := hkAH.out.trans hkp (fun k hk e => by omega)
      have hfin := Lib.hid (And.intro (kA.trans kI (fun _ _ h => h.elim)) (dA.trans kI (fun _ _ h => h.elim)))
      have hwl := Lib.hid (And.intro (show w.heap.size ≤ w1.heap.size from hk1.out.size) (show w1.heap.size ≤ wr.heap.size from dA.size))
      clear hB hZl hZW hB1 kI kA dA hgs hrl hgl hsz1
      go_wp2_with fail
      refine hSB.out.mono ?_
      rintro e w3 ⟨v3, rfl, hm3, hk3⟩
      obtain ⟨hw1l, hw2l⟩ := hwl.out
      have kA3 : Keeps (fun x => x = D ∨ x = S) w w3 := hfin.out.1.trans hk3 (fun k hk e => by omega)
      have dA3 : Keeps (fun _ => False) w1 w3 := hfin.out.2.trans hk3 (fun k hk e => by omega)
      generalize wr.heap.size = gm at *
      have hend := Lib.hid (show IntAt w3 w.heap.size gm 0 false v3 Z ∧ w.heap.size ≤ gm ∧ DecAt w3 base D S rb ro n c tr dfv emp (k + size) ∧ Keeps (fun x => x = D ∨ x = S) w w3 from ⟨hm3.lower hw1l, by omega, hd1'.out.keep dA3 id id, kA3⟩)
      clear hm3 hk3 kA3 dA3 hw1l hw2l hSB hfin hwl
      go_wp2_with fail
      go_ret
      exact ⟨gm, v3, rfl, hend.out⟩
end Go.Proofs.YthocmhkafgpgbaaGreatDoor
