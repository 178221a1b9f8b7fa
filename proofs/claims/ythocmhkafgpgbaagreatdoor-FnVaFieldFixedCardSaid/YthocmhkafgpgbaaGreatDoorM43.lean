/- Fixed numbers: the walk of the law. -/
import Derived.Test.YthocmhkafgpgbaaGreatDoorM42
set_option linter.unusedVariables false
set_option linter.unusedSimpArgs false
namespace Go.Proofs.YthocmhkafgpgbaaGreatDoor
open Go.RowKit Go.Proofs.YthocmhkafgpgbaaGreatDoorW.PrintWords Go.Proofs.YthocmhkafgpgbaaGreatDoorW.PrintMore Go.Proofs.YthocmhkafgpgbaaGreatDoorW.PrintLast
theorem decFrac_any {w : World} {v : Value} {n s : Nat} (neg : Bool) (h : NatS w v n) (hl : (digs LB n).length ≤ 1000) (hneg : neg = true → n ≠ 0) (hs : s ≤ 15) :
  Calls Tryz.prog 6 #[.agg #[.bool neg, v, .int .i64 (-(s : Int))]] w fun e w' => ∃ r t, e = .returned (.agg #[.bool neg, r, t]) ∧ NatS w' r n ∧ NatS w' t (10 ^ s) ∧ Below w.heap.size w w' := by
 rcases Nat.eq_zero_or_pos s with rfl | h0
 ·have := decFrac0_any neg h hl
  have hz : (neg && decide (n ≠ 0)) = neg := by
   cases neg with
   | false => rfl
   | true => rw [decide_eq_true (hneg rfl)]; rfl
  rw [hz] at this
  exact this
 ·refine (decFrac1_any neg h h0 hs).mono ?_
  rintro e w' ⟨r, rfl, hr, hb⟩
  exact ⟨v, r, rfl, h.below hb, hr, hb⟩
theorem reads_vec {w : World} {b p c : Nat} {ys : List Nat} (h : VecB w b p ys) (hc : ys.length ≤ c) (hl : ys.length ≤ 1000) : Reads .u8 w (.slice (some ⟨b, p, none⟩) ys.length c) ys :=
 reads_cells hc (by omega) (fun j hj => by rw [Addr.add_lit]; exact h j hj)
theorem worthBack {w : World} {bn pn kn bd pd kd : Nat} {u' v' : Value} {N s k : Nat} (neg : Bool) (hVn : VecB w bn pn (beB (N / Nat.gcd N (10 ^ s)))) (hkn : (beB (N / Nat.gcd N (10 ^ s))).length ≤ kn) (hVd : VecB w bd pd (beB (10 ^ s / Nat.gcd N (10 ^ s)))) (hkd : (beB (10 ^ s / Nat.gcd N (10 ^ s))).length ≤ kd)
  (hn : NatS w v' N) (hd : NatS w u' (10 ^ s)) (hs : s ≤ 15) (hN : N < 256 ^ k) (hk : k ≤ 15) (hneg : neg = true → N ≠ 0) :
  Calls Tryz.prog 11 #[.agg #[.bool neg, .slice (some ⟨bn, pn, none⟩) (beB (N / Nat.gcd N (10 ^ s))).length kn, .slice (some ⟨bd, pd, none⟩) (beB (10 ^ s / Nat.gcd N (10 ^ s))).length kd], .agg #[.bool neg, v', u']] w fun e w' => e = .returned (.bool true) ∧ Below w.heap.size w w' := by
 have hP := pow10_pos s
 have hPl := pow10_le hs
 have hg : 0 < Nat.gcd N (10 ^ s) := Nat.gcd_pos_of_pos_right _ hP
 have hcr := gcd_cross N (10 ^ s) hP
 have hN15 : N < 256 ^ 15 := Nat.lt_of_lt_of_le hN (Nat.pow_le_pow_right (by omega) hk)
 have hP7 : 10 ^ s < 256 ^ 7 := Nat.lt_of_le_of_lt hPl (by decide)
 have a1 : N / Nat.gcd N (10 ^ s) < 256 ^ 15 := Nat.lt_of_le_of_lt (Nat.div_le_self _ _) hN15
 have a2 : 10 ^ s / Nat.gcd N (10 ^ s) < 256 ^ 7 := Nat.lt_of_le_of_lt (Nat.div_le_self _ _) hP7
 have a3 : 10 ^ s / Nat.gcd N (10 ^ s) ≠ 0 := Nat.ne_of_gt (Nat.div_pos (Nat.gcd_le_right N hP) hg)
 have a4 : neg = true → N / Nat.gcd N (10 ^ s) ≠ 0 := fun h => Nat.ne_of_gt (Nat.div_pos (Nat.gcd_le_left _ (Nat.pos_of_ne_zero (hneg h))) hg)
 have lenB : ∀ m, m < 256 ^ 15 → (digs LB m).length ≤ 10 := fun m hm => (digs_length_le LB_one).2 (Nat.lt_of_lt_of_le hm (by rw [LB_eq]; decide))
 have h15 : (256 : Nat) ^ 7 ≤ 256 ^ 15 := by decide
 have a5 : N / Nat.gcd N (10 ^ s) * 10 ^ s < LB ^ 10 := by
  refine Nat.lt_of_lt_of_le (Nat.mul_lt_mul'' a1 hP7) ?_
  rw [LB_eq]; decide
 have b1 : (beB (N / Nat.gcd N (10 ^ s))).length ≤ 1000 := Nat.le_trans (beB_len a1) (by omega)
 have b2 : (beB (10 ^ s / Nat.gcd N (10 ^ s))).length ≤ 1000 := Nat.le_trans (beB_len a2) (by omega)
 have r1 := reads_vec hVn hkn b1
 have r2 := reads_vec hVd hkd b2
 have l1 : (digs LB (N / Nat.gcd N (10 ^ s))).length ≤ 1000 := Nat.le_trans (lenB _ a1) (by omega)
 have l2 : (digs LB (10 ^ s / Nat.gcd N (10 ^ s))).length ≤ 1000 := Nat.le_trans (lenB _ (Nat.lt_of_lt_of_le a2 h15)) (by omega)
 have l3 : (digs LB N).length ≤ 1000 := Nat.le_trans (lenB _ hN15) (by omega)
 have l4 : (digs LB (10 ^ s)).length ≤ 1000 := Nat.le_trans (lenB _ (Nat.lt_of_lt_of_le hP7 h15)) (by omega)
 have l5 : (digs LB (N / Nat.gcd N (10 ^ s) * 10 ^ s)).length ≤ 1000 := Nat.le_trans ((digs_length_le LB_one).2 a5) (by omega)
 have v1 := beB_val (N / Nat.gcd N (10 ^ s))
 have v2 := beB_val (10 ^ s / Nat.gcd N (10 ^ s))
 refine vaWorth_any (n' := N) (d' := 10 ^ s) neg r1 r2 (beB_lt _) (beB_lt _) b1 b2 (okW_beB a4) (by rw [v2]; exact a3) hn hd (by rw [v1]; exact l1) (by rw [v2]; exact l2) l3 l4 (by rw [v1]; exact l5) ?_
 rw [v1, v2]
 exact hcr.symm
def codeRow : Array Value := #[.int .i64 81, .int .i64 82, .int .i64 76]
def sizeRow : Array Value := #[.int .i64 8, .int .i64 12, .int .i64 16]
theorem fixCodes (J : Nat) (hJ : J < 3) : ∃ (code : Int) (size : Nat), codeRow[J]? = some (.int .i64 code) ∧ sizeRow[J]? = some (.int .i64 (size : Int)) ∧ FixCode code size := by
 match J, hJ with
 | 0, _ => exact ⟨81, 8, rfl, rfl, .inl ⟨rfl, rfl⟩⟩
 | 1, _ => exact ⟨82, 12, rfl, rfl, .inr (.inl ⟨rfl, rfl⟩)⟩
 | 2, _ => exact ⟨76, 16, rfl, rfl, .inr (.inr ⟨rfl, rfl⟩)⟩
theorem alloc_step {w1 W : World} (hb : Below w1.heap.size w1 W) (o : Obj) : (W.alloc o).heap[W.heap.size]? = some o ∧ Below w1.heap.size w1 (W.alloc o) := ⟨blk_new _ _, hb.alloc hb.size _⟩
set_option maxRecDepth 100000 in
set_option maxHeartbeats 4000000 in
theorem lawFixed (w : World) (hT : Thr w) (hGL : GL ≤ w.heap.size) (which : Int) (h0 : 0 ≤ which) (h1 : which < 256) (neg : Bool) (v : Value) (xs : List Nat) (h : Reads .u8 w v xs) (hb : ∀ x ∈ xs, x < 256) (scale : Int) (h2 : 0 ≤ scale) (h3 : scale < 256) :
  Calls Tryz.prog 3 #[.int .u8 which, .agg #[.bool neg, v], .int .u8 scale] w fun e w' => e = .returned (.bool true) ∧ Below w.heap.size w w' := by
 have hF := Lib.hid (fun (W : World) (hW : Below w.heap.size w W) => fits_any (w := W) neg (h.below hW))
 have hR := Lib.hid h
 have hb' := Lib.hid hb
 have hT' := Lib.hid hT
 have hGL' := Lib.hid hGL
 obtain ⟨s, hs1, hs2⟩ : ∃ s : Nat, scale.tmod 16 = (s : Int) ∧ s ≤ 15 := by
  refine ⟨(scale % 16).toNat, ?_, by omega⟩
  rw [Int.tmod_eq_emod_of_nonneg h2]; omega
 have hs3 : IntKind.i64.wrap (-(s : Int)) = -(s : Int) := by simp [IntKind.wrap, IntKind.bits, IntKind.signed]; omega
 obtain ⟨A, c, rfl, _, _⟩ := h
 clear hb hT hGL
 go_enter Tryz.func3, Tryz.ntmps3
 go_wp2_with fail
 refine (hF.out _ ((Below.refl _ w).alloc (Nat.le_refl _) _)).mono ?_
 rintro e w1 ⟨rfl, hb1⟩
 have z1 := hb1.size
 have b1 := (hb1.block _ (by simp)).trans (blk_new w (.cells #[.bool neg, .slice A xs.length c] 24 (0, 0)))
 have hbel1 : Below w.heap.size w w1 := below_then' ((Below.refl _ w).alloc (Nat.le_refl _) _) hb1
 clear hF hb1
 by_cases hlen : xs.length ≤ 2147483647
 ·rw [decide_eq_true hlen]
  have g0 : w1.cell? ⟨w.heap.size, 0, none⟩ = some (.bool neg) := by rw [cellOf b1]; rfl
  have g1 : w1.cell? ⟨w.heap.size, 1, none⟩ = some (.slice A xs.length c) := by rw [cellOf b1]; rfl
  obtain ⟨J, hJ1, hJ2⟩ : ∃ J : Nat, which.tmod 3 = (J : Int) ∧ J < 3 := by
   refine ⟨(which % 3).toNat, ?_, by omega⟩
   rw [Int.tmod_eq_emod_of_nonneg h0]; omega
  obtain ⟨code, size, hcode, hsize, hfc⟩ := fixCodes J hJ2
  have hJ3 : (J : Int) < 3 := by omega
  go_wp2_with fail
  refine start_ (n := 12) (S := fun _ => True) (ds := []) z151 (by kernel_rfl) rfl rfl trivial (fun _ => ?_)
  refine pure_ (i := 1) (N := some 25) (v := ?_) (a' := ?_) z152 rfl rfl (by kernel_rfl) (fun _ _ _ h => h) (Or.inl ⟨by rfl, ?_⟩) ?_ ?_
  rotate_left
  ·intro w'; go_simp; try with_reducible rfl
  rotate_left
  ·simp only [Act.put, sA, sB, sC]; rfl
  refine pure_ (i := 2) (N := some 26) (v := ?_) (a' := ?_) z153 rfl rfl (by kernel_rfl) (fun _ _ _ h => h) (Or.inl ⟨by rfl, ?_⟩) ?_ ?_
  rotate_left
  ·intro w'; go_simp; try with_reducible rfl
  rotate_left
  ·simp only [Act.put, sA, sB, sC]; rfl
  refine pure_ (i := 6) (N := some 30) (v := ?_) (a' := ?_) z154 rfl rfl (by kernel_rfl) (fun _ _ _ h => h) (Or.inl ⟨by rfl, ?_⟩) ?_ ?_
  rotate_left
  ·intro w'; go_simp; try with_reducible rfl
  rotate_left
  ·simp only [Act.put, sA, sB, sC]; rfl
  refine pure_ (i := 7) (N := some 31) (v := ?_) (a' := ?_) z155 rfl rfl (by kernel_rfl) (fun _ _ _ h => h) (Or.inl ⟨by rfl, ?_⟩) ?_ ?_
  rotate_left
  ·intro w'; go_simp; try with_reducible rfl
  rotate_left
  ·simp only [Act.put, sA, sB, sC]; rfl
  refine join_ (σ := Nat × Nat) 1 z156 (fun s => [(7, .int .i64 code), (24, .slice (some ⟨s.1, 0, none⟩) 3 3), (27, .pointer (some ⟨s.1, J, none⟩)), (28, .int .i64 code), (29, .slice (some ⟨s.2, 0, none⟩) 3 3), (32, .pointer (some ⟨s.2, J, none⟩)), (33, .int .i64 (size : Int))]) (fun s w2 => Below w1.heap.size w1 w2) ?_ (fun hJn => ?_)
  rotate_left
  ·have hb0 : Below w1.heap.size w1 w1.drew := (Below.refl _ w1).drew
   generalize w1.drew = V0 at *
   refine two_ (i := 0) (j := 5) (Ni := some 24) (Nj := some 29) z157 z158 rfl rfl rfl rfl (by kernel_rfl) (by decide) (by decide) (fun K hK => ?_) (fun K hK => ?_)
   ·refine value_ (w1 := V0.alloc (.cells #[.int .i64 81, .int .i64 82, .int .i64 76] 3 (0, 0))) (v := .slice (some ⟨V0.heap.size, 0, none⟩) 3 3) (by rfl) rfl (by go_simp) ?_
    refine hK.out _ _ trivial (fun _ => ?_)
    clear hK K
    obtain ⟨m1, hb1⟩ := alloc_step hb0 (.cells #[.int .i64 81, .int .i64 82, .int .i64 76] 3 (0, 0))
    generalize V0.alloc (.cells #[.int .i64 81, .int .i64 82, .int .i64 76] 3 (0, 0)) = V1 at *
    have l0 : V1.cell? ⟨V0.heap.size, J, none⟩ = some (.int .i64 code) := by rw [cellOf m1]; exact hcode
    refine norm_ (a' := ?_) ?_ ?_
    rotate_left
    ·simp only [Act.put, sA, sB, sC]; rfl
    refine pure_ (i := 3) (N := some 27) (v := ?_) (a' := ?_) z159 rfl rfl (by kernel_rfl) (fun _ _ _ h => h) (Or.inl ⟨by rfl, ?_⟩) ?_ ?_
    rotate_left
    ·intro w'; go_simp; try with_reducible rfl
    rotate_left
    ·simp only [Act.put, sA, sB, sC]; rfl
    refine two_ (i := 4) (j := 5) (Ni := some 28) (Nj := some 29) z160 z161 rfl rfl rfl rfl (by kernel_rfl) (by decide) (by decide) (fun K hK => ?_) (fun K hK => ?_)
    ·refine value_ (w1 := V1) (v := .int .i64 code) (by rfl) rfl (by go_simp) ?_
     refine hK.out _ _ trivial (fun _ => ?_)
     clear hK K
     refine norm_ (a' := ?_) ?_ ?_
     rotate_left
     ·simp only [Act.put, sA, sB, sC]; rfl
     refine pure_ (i := 10) (N := some 7) (v := ?_) (a' := ?_) z162 rfl rfl (by kernel_rfl) (fun _ _ _ h => h) (Or.inl ⟨by rfl, ?_⟩) ?_ ?_
     rotate_left
     ·intro w'; go_simp; try with_reducible rfl
     rotate_left
     ·simp only [Act.put, sA, sB, sC]; rfl
     refine one_ (i := 5) (N := some 29) z163 rfl rfl (by kernel_rfl) (by decide) (fun K hK => ?_)
     refine value_ (w1 := V1.alloc (.cells #[.int .i64 8, .int .i64 12, .int .i64 16] 3 (0, 0))) (v := .slice (some ⟨V1.heap.size, 0, none⟩) 3 3) (by rfl) rfl (by go_simp) ?_
     refine hK.out _ _ trivial (fun _ => ?_)
     clear hK K
     obtain ⟨m2, hb2⟩ := alloc_step hb1 (.cells #[.int .i64 8, .int .i64 12, .int .i64 16] 3 (0, 0))
     have q2 := blk_alloc m1 (.cells #[.int .i64 8, .int .i64 12, .int .i64 16] 3 (0, 0))
     generalize V1.alloc (.cells #[.int .i64 8, .int .i64 12, .int .i64 16] 3 (0, 0)) = V2 at *
     have l0 : V2.cell? ⟨V0.heap.size, J, none⟩ = some (.int .i64 code) := by rw [cellOf q2]; exact hcode
     have l5 : V2.cell? ⟨V1.heap.size, J, none⟩ = some (.int .i64 (size : Int)) := by rw [cellOf m2]; exact hsize
     refine norm_ (a' := ?_) ?_ ?_
     rotate_left
     ·simp only [Act.put, sA, sB, sC]; rfl
     refine pure_ (i := 8) (N := some 32) (v := ?_) (a' := ?_) z164 rfl rfl (by kernel_rfl) (fun _ _ _ h => h) (Or.inl ⟨by rfl, ?_⟩) ?_ ?_
     rotate_left
     ·intro w'; go_simp; try with_reducible rfl
     rotate_left
     ·simp only [Act.put, sA, sB, sC]; rfl
     refine one_ (i := 9) (N := some 33) z156 rfl rfl (by kernel_rfl) (by decide) (fun K hK => ?_)
     refine value_ (w1 := V2) (v := .int .i64 (size : Int)) (by rfl) rfl (by go_simp) ?_
     refine hK.out _ _ trivial (fun _ => ?_)
     clear hK K
     refine norm_ (a' := ?_) ?_ ?_
     rotate_left
     ·simp only [Act.put, sA, sB, sC]; rfl
     exact hJn (V0.heap.size, V1.heap.size) _ hb2
    ·refine value_ (w1 := V1.alloc (.cells #[.int .i64 8, .int .i64 12, .int .i64 16] 3 (0, 0))) (v := .slice (some ⟨V1.heap.size, 0, none⟩) 3 3) (by rfl) rfl (by go_simp) ?_
     refine hK.out _ _ trivial (fun _ => ?_)
     clear hK K
     obtain ⟨m2, hb2⟩ := alloc_step hb1 (.cells #[.int .i64 8, .int .i64 12, .int .i64 16] 3 (0, 0))
     have q2 := blk_alloc m1 (.cells #[.int .i64 8, .int .i64 12, .int .i64 16] 3 (0, 0))
     generalize V1.alloc (.cells #[.int .i64 8, .int .i64 12, .int .i64 16] 3 (0, 0)) = V2 at *
     have l0 : V2.cell? ⟨V0.heap.size, J, none⟩ = some (.int .i64 code) := by rw [cellOf q2]; exact hcode
     have l5 : V2.cell? ⟨V1.heap.size, J, none⟩ = some (.int .i64 (size : Int)) := by rw [cellOf m2]; exact hsize
     refine norm_ (a' := ?_) ?_ ?_
     rotate_left
     ·simp only [Act.put, sA, sB, sC]; rfl
     refine pure_ (i := 8) (N := some 32) (v := ?_) (a' := ?_) z165 rfl rfl (by kernel_rfl) (fun _ _ _ h => h) (Or.inl ⟨by rfl, ?_⟩) ?_ ?_
     rotate_left
     ·intro w'; go_simp; try with_reducible rfl
     rotate_left
     ·simp only [Act.put, sA, sB, sC]; rfl
     refine two_ (i := 4) (j := 9) (Ni := some 28) (Nj := some 33) z166 z167 rfl rfl rfl rfl (by kernel_rfl) (by decide) (by decide) (fun K hK => ?_) (fun K hK => ?_)
     ·refine value_ (w1 := V2) (v := .int .i64 code) (by rfl) rfl (by go_simp) ?_
      refine hK.out _ _ trivial (fun _ => ?_)
      clear hK K
      refine norm_ (a' := ?_) ?_ ?_
      rotate_left
      ·simp only [Act.put, sA, sB, sC]; rfl
      refine pure_ (i := 10) (N := some 7) (v := ?_) (a' := ?_) z164 rfl rfl (by kernel_rfl) (fun _ _ _ h => h) (Or.inl ⟨by rfl, ?_⟩) ?_ ?_
      rotate_left
      ·intro w'; go_simp; try with_reducible rfl
      rotate_left
      ·simp only [Act.put, sA, sB, sC]; rfl
      refine one_ (i := 9) (N := some 33) z156 rfl rfl (by kernel_rfl) (by decide) (fun K hK => ?_)
      refine value_ (w1 := V2) (v := .int .i64 (size : Int)) (by rfl) rfl (by go_simp) ?_
      refine hK.out _ _ trivial (fun _ => ?_)
      clear hK K
      refine norm_ (a' := ?_) ?_ ?_
      rotate_left
      ·simp only [Act.put, sA, sB, sC]; rfl
      exact hJn (V0.heap.size, V1.heap.size) _ hb2
     ·refine value_ (w1 := V2) (v := .int .i64 (size : Int)) (by rfl) rfl (by go_simp) ?_
      refine hK.out _ _ trivial (fun _ => ?_)
      clear hK K
      refine norm_ (a' := ?_) ?_ ?_
      rotate_left
      ·simp only [Act.put, sA, sB, sC]; rfl
      refine one_ (i := 4) (N := some 28) z168 rfl rfl (by kernel_rfl) (by decide) (fun K hK => ?_)
      refine value_ (w1 := V2) (v := .int .i64 code) (by rfl) rfl (by go_simp) ?_
      refine hK.out _ _ trivial (fun _ => ?_)
      clear hK K
      refine norm_ (a' := ?_) ?_ ?_
      rotate_left
      ·simp only [Act.put, sA, sB, sC]; rfl
      refine pure_ (i := 10) (N := some 7) (v := ?_) (a' := ?_) z156 rfl rfl (by kernel_rfl) (fun _ _ _ h => h) (Or.inl ⟨by rfl, ?_⟩) ?_ ?_
      rotate_left
      ·intro w'; go_simp; try with_reducible rfl
      rotate_left
      ·simp only [Act.put, sA, sB, sC]; rfl
      exact hJn (V0.heap.size, V1.heap.size) _ hb2
   ·refine value_ (w1 := V0.alloc (.cells #[.int .i64 8, .int .i64 12, .int .i64 16] 3 (0, 0))) (v := .slice (some ⟨V0.heap.size, 0, none⟩) 3 3) (by rfl) rfl (by go_simp) ?_
    refine hK.out _ _ trivial (fun _ => ?_)
    clear hK K
    obtain ⟨m1, hb1⟩ := alloc_step hb0 (.cells #[.int .i64 8, .int .i64 12, .int .i64 16] 3 (0, 0))
    generalize V0.alloc (.cells #[.int .i64 8, .int .i64 12, .int .i64 16] 3 (0, 0)) = V1 at *
    have l5 : V1.cell? ⟨V0.heap.size, J, none⟩ = some (.int .i64 (size : Int)) := by rw [cellOf m1]; exact hsize
    refine norm_ (a' := ?_) ?_ ?_
    rotate_left
    ·simp only [Act.put, sA, sB, sC]; rfl
    refine pure_ (i := 8) (N := some 32) (v := ?_) (a' := ?_) z169 rfl rfl (by kernel_rfl) (fun _ _ _ h => h) (Or.inl ⟨by rfl, ?_⟩) ?_ ?_
    rotate_left
    ·intro w'; go_simp; try with_reducible rfl
    rotate_left
    ·simp only [Act.put, sA, sB, sC]; rfl
    refine two_ (i := 0) (j := 9) (Ni := some 24) (Nj := some 33) z170 z171 rfl rfl rfl rfl (by kernel_rfl) (by decide) (by decide) (fun K hK => ?_) (fun K hK => ?_)
    ·refine value_ (w1 := V1.alloc (.cells #[.int .i64 81, .int .i64 82, .int .i64 76] 3 (0, 0))) (v := .slice (some ⟨V1.heap.size, 0, none⟩) 3 3) (by rfl) rfl (by go_simp) ?_
     refine hK.out _ _ trivial (fun _ => ?_)
     clear hK K
     obtain ⟨m2, hb2⟩ := alloc_step hb1 (.cells #[.int .i64 81, .int .i64 82, .int .i64 76] 3 (0, 0))
     have q2 := blk_alloc m1 (.cells #[.int .i64 81, .int .i64 82, .int .i64 76] 3 (0, 0))
     generalize V1.alloc (.cells #[.int .i64 81, .int .i64 82, .int .i64 76] 3 (0, 0)) = V2 at *
     have l5 : V2.cell? ⟨V0.heap.size, J, none⟩ = some (.int .i64 (size : Int)) := by rw [cellOf q2]; exact hsize
     have l0 : V2.cell? ⟨V1.heap.size, J, none⟩ = some (.int .i64 code) := by rw [cellOf m2]; exact hcode
     refine norm_ (a' := ?_) ?_ ?_
     rotate_left
     ·simp only [Act.put, sA, sB, sC]; rfl
     refine pure_ (i := 3) (N := some 27) (v := ?_) (a' := ?_) z165 rfl rfl (by kernel_rfl) (fun _ _ _ h => h) (Or.inl ⟨by rfl, ?_⟩) ?_ ?_
     rotate_left
     ·intro w'; go_simp; try with_reducible rfl
     rotate_left
     ·simp only [Act.put, sA, sB, sC]; rfl
     refine two_ (i := 4) (j := 9) (Ni := some 28) (Nj := some 33) z166 z167 rfl rfl rfl rfl (by kernel_rfl) (by decide) (by decide) (fun K hK => ?_) (fun K hK => ?_)
     ·refine value_ (w1 := V2) (v := .int .i64 code) (by rfl) rfl (by go_simp) ?_
      refine hK.out _ _ trivial (fun _ => ?_)
      clear hK K
      refine norm_ (a' := ?_) ?_ ?_
      rotate_left
      ·simp only [Act.put, sA, sB, sC]; rfl
      refine pure_ (i := 10) (N := some 7) (v := ?_) (a' := ?_) z164 rfl rfl (by kernel_rfl) (fun _ _ _ h => h) (Or.inl ⟨by rfl, ?_⟩) ?_ ?_
      rotate_left
      ·intro w'; go_simp; try with_reducible rfl
      rotate_left
      ·simp only [Act.put, sA, sB, sC]; rfl
      refine one_ (i := 9) (N := some 33) z156 rfl rfl (by kernel_rfl) (by decide) (fun K hK => ?_)
      refine value_ (w1 := V2) (v := .int .i64 (size : Int)) (by rfl) rfl (by go_simp) ?_
      refine hK.out _ _ trivial (fun _ => ?_)
      clear hK K
      refine norm_ (a' := ?_) ?_ ?_
      rotate_left
      ·simp only [Act.put, sA, sB, sC]; rfl
      exact hJn (V1.heap.size, V0.heap.size) _ hb2
     ·refine value_ (w1 := V2) (v := .int .i64 (size : Int)) (by rfl) rfl (by go_simp) ?_
      refine hK.out _ _ trivial (fun _ => ?_)
      clear hK K
      refine norm_ (a' := ?_) ?_ ?_
      rotate_left
      ·simp only [Act.put, sA, sB, sC]; rfl
      refine one_ (i := 4) (N := some 28) z168 rfl rfl (by kernel_rfl) (by decide) (fun K hK => ?_)
      refine value_ (w1 := V2) (v := .int .i64 code) (by rfl) rfl (by go_simp) ?_
      refine hK.out _ _ trivial (fun _ => ?_)
      clear hK K
      refine norm_ (a' := ?_) ?_ ?_
      rotate_left
      ·simp only [Act.put, sA, sB, sC]; rfl
      refine pure_ (i := 10) (N := some 7) (v := ?_) (a' := ?_) z156 rfl rfl (by kernel_rfl) (fun _ _ _ h => h) (Or.inl ⟨by rfl, ?_⟩) ?_ ?_
      rotate_left
      ·intro w'; go_simp; try with_reducible rfl
      rotate_left
      ·simp only [Act.put, sA, sB, sC]; rfl
      exact hJn (V1.heap.size, V0.heap.size) _ hb2
    ·refine value_ (w1 := V1) (v := .int .i64 (size : Int)) (by rfl) rfl (by go_simp) ?_
     refine hK.out _ _ trivial (fun _ => ?_)
     clear hK K
     refine norm_ (a' := ?_) ?_ ?_
     rotate_left
     ·simp only [Act.put, sA, sB, sC]; rfl
     refine one_ (i := 0) (N := some 24) z172 rfl rfl (by kernel_rfl) (by decide) (fun K hK => ?_)
     refine value_ (w1 := V1.alloc (.cells #[.int .i64 81, .int .i64 82, .int .i64 76] 3 (0, 0))) (v := .slice (some ⟨V1.heap.size, 0, none⟩) 3 3) (by rfl) rfl (by go_simp) ?_
     refine hK.out _ _ trivial (fun _ => ?_)
     clear hK K
     obtain ⟨m2, hb2⟩ := alloc_step hb1 (.cells #[.int .i64 81, .int .i64 82, .int .i64 76] 3 (0, 0))
     have q2 := blk_alloc m1 (.cells #[.int .i64 81, .int .i64 82, .int .i64 76] 3 (0, 0))
     generalize V1.alloc (.cells #[.int .i64 81, .int .i64 82, .int .i64 76] 3 (0, 0)) = V2 at *
     have l5 : V2.cell? ⟨V0.heap.size, J, none⟩ = some (.int .i64 (size : Int)) := by rw [cellOf q2]; exact hsize
     have l0 : V2.cell? ⟨V1.heap.size, J, none⟩ = some (.int .i64 code) := by rw [cellOf m2]; exact hcode
     refine norm_ (a' := ?_) ?_ ?_
     rotate_left
     ·simp only [Act.put, sA, sB, sC]; rfl
     refine pure_ (i := 3) (N := some 27) (v := ?_) (a' := ?_) z167 rfl rfl (by kernel_rfl) (fun _ _ _ h => h) (Or.inl ⟨by rfl, ?_⟩) ?_ ?_
     rotate_left
     ·intro w'; go_simp; try with_reducible rfl
     rotate_left
     ·simp only [Act.put, sA, sB, sC]; rfl
     refine one_ (i := 4) (N := some 28) z168 rfl rfl (by kernel_rfl) (by decide) (fun K hK => ?_)
     refine value_ (w1 := V2) (v := .int .i64 code) (by rfl) rfl (by go_simp) ?_
     refine hK.out _ _ trivial (fun _ => ?_)
     clear hK K
     refine norm_ (a' := ?_) ?_ ?_
     rotate_left
     ·simp only [Act.put, sA, sB, sC]; rfl
     refine pure_ (i := 10) (N := some 7) (v := ?_) (a' := ?_) z156 rfl rfl (by kernel_rfl) (fun _ _ _ h => h) (Or.inl ⟨by rfl, ?_⟩) ?_ ?_
     rotate_left
     ·intro w'; go_simp; try with_reducible rfl
     rotate_left
     ·simp only [Act.put, sA, sB, sC]; rfl
     exact hJn (V1.heap.size, V0.heap.size) _ hb2
  rintro ⟨g1, g2⟩ w2 hb2
  refine norm_ (a' := ?_) ?_ ?_
  rotate_left
  ·simp only [putAll, Act.put, sA, sB, sC]; rfl
  refine pure_ (i := 11) (N := some 8) (v := ?_) (a' := ?_) z173 rfl rfl (by kernel_rfl) (fun _ _ _ h => h) (Or.inl ⟨by rfl, ?_⟩) ?_ ?_
  rotate_left
  ·intro w'; go_simp; try with_reducible rfl
  rotate_left
  ·simp only [Act.put, sA, sB, sC]; rfl
  refine done_ (by kernel_rfl) ?_
  have hL : xs.length = xs.length := rfl
  have b2 := (hb2.block _ (sizeOf_blk b1)).trans b1
  have hbel2 : Below w.heap.size w w2 := below_then' hbel1 hb2
  have hs8 : 8 ≤ size ∧ size ≤ 16 := by rcases hfc with ⟨_, rfl⟩ | ⟨_, rfl⟩ | ⟨_, rfl⟩ <;> omega
  obtain ⟨most, hmost⟩ : ∃ m, size = m + 1 := ⟨size - 1, by omega⟩
  have hwm : IntKind.i64.wrap ((size : Int) - 1) = (most : Int) := by
   simp [IntKind.wrap, IntKind.bits, IntKind.signed]; omega
  have c0 : w2.cell? ⟨w.heap.size, 0, none⟩ = some (.bool neg) := by rw [cellOf b2]; rfl
  have c1 : w2.cell? ⟨w.heap.size, 1, none⟩ = some (.slice A xs.length c) := by rw [cellOf b2]; rfl
  have hcode' := Lib.hid hcode
  have hsize' := Lib.hid hsize
  have hfc' := Lib.hid hfc
  have hs8' := Lib.hid hs8
  have hmost' := Lib.hid hmost
  clear hcode hsize hfc hs8 hmost b1 b2 hb2 g0 hL
  go_wp2_with fail
  refine (lawBig_any neg most (hR.out.below hbel2) hb'.out (by omega)).mono ?_
  rintro e w3 ⟨r3, rfl, hr3, hb3⟩
  obtain ⟨A3, a3, rfl, hc3, hC3⟩ := hr3
  have hr3 : NatS w3 (.slice A3 (digs LB (beVal xs)).length a3) (beVal xs) := ⟨A3, a3, rfl, hc3, hC3⟩
  have hbel3 : Below w.heap.size w w3 := below_then' hbel2 hb3
  clear c0 c1 hC3 hc3 hb3 hbel2
  cases hok : (okW neg xs && decide (xs.length ≤ most)) with
  | false =>
   go_wp2_with fail
   go_ret
   exact ⟨rfl, hbel3.alloc hbel3.size _⟩
  | true =>
   rw [Bool.and_eq_true] at hok
   obtain ⟨hx, hneg⟩ := okW_out hb'.out hok.1
   have hxl := of_decide_eq_true hok.2
   have hNl : beVal xs < 256 ^ (size - 1) := Nat.lt_of_lt_of_le (beVal_lt xs hb'.out) (Nat.pow_le_pow_right (by omega) (by have := hmost'.out; omega))
   clear hok hx hxl
   generalize beVal xs = N at *
   have hneg' := Lib.hid hneg
   have hNl' := Lib.hid hNl
   clear hneg hNl
   have hlen3 : (digs LB N).length ≤ 5 := (digs_length_le LB_one).2 (Nat.lt_of_lt_of_le hNl'.out (Nat.le_trans (Nat.pow_le_pow_right (by omega) (show size - 1 ≤ 15 by have := hs8'.out; omega)) (by rw [LB_eq]; decide)))
   have hlen3' := Lib.hid hlen3
   clear hlen3
   go_wp2_with fail
   have hb4 : Below w3.heap.size w3 (w3.alloc (.cells #[.bool neg, .slice A3 (digs LB N).length a3] 30 (0, 0))) := (Below.refl _ w3).alloc (Nat.le_refl _) _
   have z4 : (w3.alloc (.cells #[.bool neg, .slice A3 (digs LB N).length a3] 30 (0, 0))).heap.size = w3.heap.size + 1 := by simp
   refine (decFrac_any neg (hr3.below hb4) (by have := hlen3'.out; omega) hneg'.out hs2).mono ?_
   rintro e w5 ⟨r5, t5, rfl, hr5, ht5, hb5⟩
   obtain ⟨A5, a5, rfl, hc5, hC5⟩ := hr5
   have hr5 : NatS w5 (.slice A5 (digs LB N).length a5) N := ⟨A5, a5, rfl, hc5, hC5⟩
   obtain ⟨B5, b5, rfl, hc5', hC5'⟩ := ht5
   have ht5 : NatS w5 (.slice B5 (digs LB (10 ^ s)).length b5) (10 ^ s) := ⟨B5, b5, rfl, hc5', hC5'⟩
   have hr35 := (hr3.below hb4).below hb5
   have z5 := hb5.size
   have bw5 := (hb5.block _ (by omega)).trans (blk_new w3 (.cells #[.bool neg, .slice A3 (digs LB N).length a3] 30 (0, 0)))
   have hbel5 : Below w.heap.size w w5 := below_then' (below_then' hbel3 hb4) hb5
   have hb6 : Below w5.heap.size w5 (w5.alloc (.cells #[.bool neg, .slice A5 (digs LB N).length a5, .slice B5 (digs LB (10 ^ s)).length b5] 34 (0, 0))) := (Below.refl _ w5).alloc (Nat.le_refl _) _
   have bw6 := blk_alloc bw5 (.cells #[.bool neg, .slice A5 (digs LB N).length a5, .slice B5 (digs LB (10 ^ s)).length b5] 34 (0, 0))
   have bf6 := blk_new w5 (.cells #[.bool neg, .slice A5 (digs LB N).length a5, .slice B5 (digs LB (10 ^ s)).length b5] 34 (0, 0))
   have z6 : (w5.alloc (.cells #[.bool neg, .slice A5 (digs LB N).length a5, .slice B5 (digs LB (10 ^ s)).length b5] 34 (0, 0))).heap.size = w5.heap.size + 1 := by simp
   obtain ⟨W6, hW6⟩ : ∃ x, x = w5.alloc (.cells #[.bool neg, .slice A5 (digs LB N).length a5, .slice B5 (digs LB (10 ^ s)).length b5] 34 (0, 0)) := ⟨_, rfl⟩
   have d0 : (w5.alloc (.cells #[.bool neg, .slice A5 (digs LB N).length a5, .slice B5 (digs LB (10 ^ s)).length b5] 34 (0, 0))).cell? ⟨w3.heap.size, 0, none⟩ = some (.bool neg) := by rw [cellOf bw6]; rfl
   have d1 : (w5.alloc (.cells #[.bool neg, .slice A5 (digs LB N).length a5, .slice B5 (digs LB (10 ^ s)).length b5] 34 (0, 0))).cell? ⟨w3.heap.size, 1, none⟩ = some (.slice A3 (digs LB N).length a3) := by rw [cellOf bw6]; rfl
   rw [← hW6] at hb6 bw6 bf6 z6
   replace hW6 := Lib.hid hW6
   have hr36 := hr35.below hb6
   have hr6 := hr5.below hb6
   have ht6 := ht5.below hb6
   have hbel6 := below_then' hbel5 hb6
   have zz : w.heap.size ≤ w3.heap.size := hbel3.size
   have hr36' := Lib.hid hr36
   have hr6' := Lib.hid hr6
   have ht6' := Lib.hid ht6
   clear hb4 z4 hr3 hc5 hC5 hc5' hC5' hr5 ht5 hr35 bw5 hb6 hr36 hr6 ht6 hb5
   go_wp2_with fail
   rw [← hW6.out]
   refine (vaFixed_any neg hr36'.out (by rcases hfc'.out with ⟨_, h⟩ | ⟨_, h⟩ | ⟨_, h⟩ <;> simp [h]) hNl'.out).mono ?_
   rintro e w7 ⟨v7, rfl, ho7, hb7⟩
   obtain ⟨g7, c7, rfl, hg7, hgl7, hi7⟩ := Input.of_row ho7 (by have := hs8'.out; omega)
   have hi7' := Lib.hid hi7
   have z7 := hb7.size
   have bf7 := (hb7.block _ (by omega)).trans bf6
   have hbel7 := below_then' hbel6 hb7
   have hr7 := Lib.hid (hr6'.out.below hb7)
   have ht7 := Lib.hid (ht6'.out.below hb7)
   have e0 : w7.cell? ⟨w5.heap.size, 0, none⟩ = some (.bool neg) := by rw [cellOf bf7]; rfl
   have e1 : w7.cell? ⟨w5.heap.size, 1, none⟩ = some (.slice A5 (digs LB N).length a5) := by rw [cellOf bf7]; rfl
   have e2 : w7.cell? ⟨w5.heap.size, 2, none⟩ = some (.slice B5 (digs LB (10 ^ s)).length b5) := by rw [cellOf bf7]; rfl
   clear ho7 hi7 hb7 bw6 d0 d1 hr36' hr6' ht6'
   go_wp2_with fail
   have hN256 : (digs 256 N).length ≤ 4294967296 := Nat.le_trans ((digs_length_le (by omega)).2 hNl'.out) (by have := hs8'.out; omega)
   have hP := pow10_le hs2
   have hP256 : (digs 256 (10 ^ s)).length ≤ 4294967296 := Nat.le_trans ((digs_length_le (k := 7) (by omega)).2 (Nat.lt_of_le_of_lt hP (by decide))) (by omega)
   have hPL : (digs LB (10 ^ s)).length ≤ 5 := Nat.le_trans ((digs_length_le (k := 2) LB_one).2 (Nat.lt_of_le_of_lt hP (by rw [LB_eq]; decide))) (by omega)
   refine (vaRatOf_any neg hr7.out ht7.out hN256 (by have := hlen3'.out; omega) hP256 (by omega)).mono ?_
   rintro e w8 ⟨v8, u8, rfl, hv8, hu8, hb8⟩
   have hv8' := Lib.hid hv8
   have hu8' := Lib.hid hu8
   obtain ⟨p8, k8, rfl, _, _⟩ := hv8
   obtain ⟨q8, j8, rfl, _, _⟩ := hu8
   have z8 := hb8.size
   have bf8 := (hb8.block _ (by omega)).trans bf7
   have hbel8 := below_then' hbel7 hb8
   have hr8 := Lib.hid (hr7.out.below hb8)
   have ht8 := Lib.hid (ht7.out.below hb8)
   have hi8 := Lib.hid (hi7'.out.below hb8 hgl7)
   have hPL' := Lib.hid hPL
   have hP' := Lib.hid hP
   clear hN256 hP hP256 hPL hr7 ht7 hi7' hb8 e0 e1 e2 bf7
   generalize hLN : (beB N).length = LN at *
   generalize hLP : (beB (10 ^ s)).length = LP at *
   have hLN' := Lib.hid hLN
   have hLP' := Lib.hid hLP
   clear hLN hLP
   go_wp2_with fail
   have hGL8 := Nat.le_trans hGL'.out hbel8.size
   have hT8 := hT'.out.below hbel8 hGL'.out
   refine (fbFixedAny w8 code size hfc'.out neg _ _ N s hv8'.out hu8'.out hs2 hNl'.out hneg'.out hT8 hGL8).mono ?_
   rintro e w9 ⟨r9, rfl, ho9, hb9⟩
   have hM1 : ([code] ++ leB (zOf neg N) size).length = size + 1 := by simp
   rw [hM1] at ho9
   obtain ⟨g9, c9, rfl, hg9, hgl9, hi9⟩ := Input.of_row ho9 (by omega)
   have z9 := hb9.size
   have bf9 := (hb9.block _ (by omega)).trans bf8
   have hbel9 := below_then' hbel8 hb9
   have hr9 := Lib.hid (hr8.out.below hb9)
   have ht9 := Lib.hid (ht8.out.below hb9)
   have hi89 := Lib.hid (hi8.out.below hb9 (by omega))
   have hi9' := Lib.hid hi9
   clear ho9 hi9 hb9 hr8 ht8 hi8 hv8' hu8' bf8 hT8 hM1
   go_wp2_with fail
   have hsz9 := hs8'.out
   have hcm : code % 256 = code := by rcases hfc'.out with ⟨rfl, _⟩ | ⟨rfl, _⟩ | ⟨rfl, _⟩ <;> rfl
   have hcw : IntKind.u8.wrap code = code := by rcases hfc'.out with ⟨rfl, _⟩ | ⟨rfl, _⟩ | ⟨rfl, _⟩ <;> rfl
   obtain ⟨i0, hi0, hz0, hz1, hz2⟩ := info_parts Tryz.info5
   have hS0 : ∀ W, Below w9.heap.size w9 W → (convert 22 9 (.slice (some ⟨g9, 0, none⟩) (size + 1) c9)).run Tryz.prog W = .ok (.string (strOfNums ([code] ++ leB (zOf neg N) size))) W := fun W hW => conv_input (hi9'.out.below hW hgl9)
   have hS := Lib.hid hS0
   clear hS0
   have hgl79 : g7 < w9.heap.size := by omega
   refine wp_region_noPanic ?_
   refine wp_region_held_drew (S := fun w' => (convert 22 9 (.slice (some ⟨g9, 0, none⟩) (size + 1) c9)).run Tryz.prog w' = .ok (.string (strOfNums ([code] ++ leB (zOf neg N) size))) w') (by kernel_rfl) ?_ (fun hHeld => ?_)
   ·first | exact hS.out _ (Below.drew (Below.refl _ _)) | exact hS.out _ (Below.drew ((Below.refl _ _).alloc (Nat.le_refl _) _)) | exact hS.out _ hB10.out
   refine wpAnyH_take (i := 0) (oi := ⟨_, _, _, _, _, _⟩) (v := ?_) rfl (by kernel_rfl) (by kernel_rfl) (by kernel_rfl) (fun _ _ _ h => h) (Or.inl ⟨by rfl, ?_⟩) (by assumption) ?_
   rotate_left
   ·intro w hSw; (try dsimp only at hSw); go_simp; try with_reducible rfl
   try simp only [Act.put, sA, sB, sC]
   refine wpAnyH_take (i := 1) (oi := ⟨_, _, _, _, _, _⟩) (v := ?_) rfl (by kernel_rfl) (by kernel_rfl) (by kernel_rfl) (fun _ _ _ h => h) (Or.inl ⟨by rfl, ?_⟩) (by assumption) ?_
   rotate_left
   ·intro w hSw; (try dsimp only at hSw); go_simp; try with_reducible rfl
   try simp only [Act.put, sA, sB, sC]
   refine wpAnyH_take (i := 2) (oi := ⟨_, _, _, _, _, _⟩) (v := ?_) rfl (by kernel_rfl) (by kernel_rfl) (by kernel_rfl) (fun _ _ _ h => h) (Or.inl ⟨by rfl, ?_⟩) (by assumption) ?_
   rotate_left
   ·intro w hSw; (try dsimp only at hSw); go_simp; try with_reducible rfl
   try simp only [Act.put, sA, sB, sC]
   refine wpAnyH_take (i := 3) (oi := ⟨_, _, _, _, _, _⟩) (v := ?_) rfl (by kernel_rfl) (by kernel_rfl) (by kernel_rfl) (fun _ _ _ h => h) (Or.inl ⟨by rfl, ?_⟩) (by assumption) ?_
   rotate_left
   ·intro w hSw; (try dsimp only at hSw); go_simp; try with_reducible rfl
   try simp only [Act.put, sA, sB, sC]
   refine wpAnyH_take (i := 4) (oi := ⟨_, _, _, _, _, _⟩) (v := ?_) rfl (by kernel_rfl) (by kernel_rfl) (by kernel_rfl) (fun _ _ _ h => h) (Or.inl ⟨by rfl, ?_⟩) (by assumption) ?_
   rotate_left
   ·intro w hSw; (try dsimp only at hSw); go_simp; try with_reducible rfl
   try simp only [Act.put, sA, sB, sC]
   refine wpAnyH_take (i := 5) (oi := ⟨_, _, _, _, _, _⟩) (v := ?_) rfl (by kernel_rfl) (by kernel_rfl) (by kernel_rfl) (fun _ _ _ h => h) (Or.inl ⟨by rfl, ?_⟩) (by assumption) ?_
   rotate_left
   ·intro w hSw; (try dsimp only at hSw); go_simp; try with_reducible rfl
   try simp only [Act.put, sA, sB, sC]
   refine wpAnyH_take (i := 6) (oi := ⟨_, _, _, _, _, _⟩) (v := ?_) rfl (by kernel_rfl) (by kernel_rfl) (by kernel_rfl) (fun _ _ _ h => h) (Or.inl ⟨by rfl, ?_⟩) (by assumption) ?_
   rotate_left
   ·intro w hSw; (try dsimp only at hSw); go_simp; try with_reducible rfl
   try simp only [Act.put, sA, sB, sC]
   refine wpAnyH_take (i := 7) (oi := ⟨_, _, _, _, _, _⟩) (v := ?_) rfl (by kernel_rfl) (by kernel_rfl) (by kernel_rfl) (fun _ _ _ h => h) (Or.inl ⟨by rfl, ?_⟩) (by assumption) ?_
   rotate_left
   ·intro w hSw; (try dsimp only at hSw); go_simp; try with_reducible rfl
   try simp only [Act.put, sA, sB, sC]
   refine wpAnyH_take (i := 8) (oi := ⟨_, _, _, _, _, _⟩) (v := ?_) rfl (by kernel_rfl) (by kernel_rfl) (by kernel_rfl) (fun _ _ _ h => h) (Or.inl ⟨by rfl, ?_⟩) (by assumption) ?_
   rotate_left
   ·intro w hSw; (try dsimp only at hSw); go_simp; try with_reducible rfl
   try simp only [Act.put, sA, sB, sC]
   refine wpAnyH_take (i := 9) (oi := ⟨_, _, _, _, _, _⟩) (v := ?_) rfl (by kernel_rfl) (by kernel_rfl) (by kernel_rfl) (fun _ _ _ h => h) (Or.inl ⟨by rfl, ?_⟩) (by assumption) ?_
   rotate_left
   ·intro w hSw; (try dsimp only at hSw); go_simp; try with_reducible rfl
   try simp only [Act.put, sA, sB, sC]
   refine wpAnyH_take (i := 10) (oi := ⟨_, _, _, _, _, _⟩) (v := ?_) rfl (by kernel_rfl) (by kernel_rfl) (by kernel_rfl) (fun _ _ _ h => h) (Or.inl ⟨by rfl, ?_⟩) (by assumption) ?_
   rotate_left
   ·intro w hSw; (try dsimp only at hSw); go_simp; try with_reducible rfl
   try simp only [Act.put, sA, sB, sC]
   refine wpAnyH_take (i := 11) (oi := ⟨_, _, _, _, _, _⟩) (v := ?_) rfl (by kernel_rfl) (by kernel_rfl) (by kernel_rfl) (fun _ _ _ h => h) (Or.inl ⟨by rfl, ?_⟩) (by assumption) ?_
   rotate_left
   ·intro w hSw; (try dsimp only at hSw); go_simp; try with_reducible rfl
   try simp only [Act.put, sA, sB, sC]
   refine wpAnyH_take (i := 12) (oi := ⟨_, _, _, _, _, _⟩) (v := ?_) rfl (by kernel_rfl) (by kernel_rfl) (by kernel_rfl) (fun _ _ _ h => h) (Or.inl ⟨by rfl, ?_⟩) (by assumption) ?_
   rotate_left
   ·intro w hSw; (try dsimp only at hSw); go_simp; try with_reducible rfl
   try simp only [Act.put, sA, sB, sC]
   refine wpAnyH_take (i := 13) (oi := ⟨_, _, _, _, _, _⟩) (v := ?_) rfl (by kernel_rfl) (by kernel_rfl) (by kernel_rfl) (fun _ _ _ h => h) (Or.inl ⟨by rfl, ?_⟩) (by assumption) ?_
   rotate_left
   ·intro w hSw; (try dsimp only at hSw); go_simp; try with_reducible rfl
   try simp only [Act.put, sA, sB, sC]
   refine wpAnyH_take (i := 14) (oi := ⟨_, _, _, _, _, _⟩) (v := ?_) rfl (by kernel_rfl) (by kernel_rfl) (by kernel_rfl) (fun _ _ _ h => h) (Or.inl ⟨by rfl, ?_⟩) (by assumption) ?_
   rotate_left
   ·intro w hSw; (try dsimp only at hSw); go_simp; try with_reducible rfl
   try simp only [Act.put, sA, sB, sC]
   refine wpAnyH_take (i := 15) (oi := ⟨_, _, _, _, _, _⟩) (v := ?_) rfl (by kernel_rfl) (by kernel_rfl) (by kernel_rfl) (fun _ _ _ h => h) (Or.inl ⟨by rfl, ?_⟩) (by assumption) ?_
   rotate_left
   ·intro w hSw; (try dsimp only at hSw); go_simp; try with_reducible rfl
   try simp only [Act.put, sA, sB, sC]
   refine wpAnyH_take (i := 17) (oi := ⟨_, _, _, _, _, _⟩) (v := ?_) rfl (by kernel_rfl) (by kernel_rfl) (by kernel_rfl) (fun _ _ _ h => h) (Or.inl ⟨by rfl, ?_⟩) (by assumption) ?_
   rotate_left
   ·intro w hSw; (try dsimp only at hSw); go_simp; try with_reducible rfl
   try simp only [Act.put, sA, sB, sC]
   refine wpAnyH_ready (rs := [16]) (by kernel_rfl) (by simp) ?_
   refine AllReadyH.cons (o := ⟨_, _, _, _, _, _⟩) rfl (fun K hK => ?_) AllReadyH.nil
   go_simp
   refine hK.out _ _ ?_ (fun hHeld => ?_)
   ·first | exact hS.out _ (Below.drew (Below.refl _ _)) | exact hS.out _ (Below.drew ((Below.refl _ _).alloc (Nat.le_refl _) _)) | exact hS.out _ hB10.out
   clear hK K
   try simp only [Act.put, sA, sB, sC]
   refine wpAnyH_ready (rs := [18]) (by kernel_rfl) (by simp) ?_
   refine AllReadyH.cons (o := ⟨_, _, _, _, _, _⟩) rfl (fun K hK => ?_) AllReadyH.nil
   refine step_append_g (by rfl) (.tmp 83) (.tmp 84) _ (by rfl) w9.heap.size 5 i0 _ 1 1 Tryz.underlying22 hi0 hz0 hz1 hz2 rfl (by decide) _ 1 (u8s [code]) (by rfl) ((litRow w9 code).drew)
    ⟨g7, 0, none⟩ size c7 (u8s (leB (zOf neg N) size)) (by rfl) (by simp) (Input.news (hi89.out.below (Below.drew ((Below.refl _ _).alloc (Nat.le_refl _) _)) (by omega))) (u8s_one _)
    (by omega) (by unfold maxLen; omega) (by omega) (by simp) (w9.heap.size + 1) (by simp) ?_
   intro gg cap w10 hown10 hgrow hat hlt
   have hcv10 := conv_row (bs := [code] ++ leB (zOf neg N) size) hown10 (by omega)
   have hB10 := Lib.hid ((Below.drew ((Below.refl w9.heap.size w9).alloc (Nat.le_refl _) _)).grown hgrow (by simp) (fun x hx => by simp [Value.ownBlock] at hx; omega))
   clear hown10 hgrow hat hlt
   refine hK.out _ _ ?_ (fun hHeld => ?_)
   ·first | exact hS.out _ (Below.drew (Below.refl _ _)) | exact hS.out _ (Below.drew ((Below.refl _ _).alloc (Nat.le_refl _) _)) | exact hS.out _ hB10.out
   clear hK K
   try simp only [Act.put, sA, sB, sC]
   refine wpAnyH_ready (rs := [19]) (by kernel_rfl) (by simp) ?_
   refine AllReadyH.cons (o := ⟨_, _, _, _, _, _⟩) rfl (fun K hK => ?_) AllReadyH.nil
   go_simp
   refine hK.out _ _ ?_ (fun hHeld => ?_)
   ·first | exact hS.out _ (Below.drew (Below.refl _ _)) | exact hS.out _ (Below.drew ((Below.refl _ _).alloc (Nat.le_refl _) _)) | exact hS.out _ hB10.out
   clear hK K
   try simp only [Act.put, sA, sB, sC]
   refine wpAnyH_take (i := 20) (oi := ⟨_, _, _, _, _, _⟩) (v := ?_) rfl (by kernel_rfl) (by kernel_rfl) (by kernel_rfl) (fun _ _ _ h => h) (Or.inl ⟨by rfl, ?_⟩) (by assumption) ?_
   rotate_left
   ·intro w hSw; (try dsimp only at hSw); go_simp; try with_reducible rfl
   try simp only [Act.put, sA, sB, sC]
   refine wpAnyH_take (i := 21) (oi := ⟨_, _, _, _, _, _⟩) (v := ?_) rfl (by kernel_rfl) (by kernel_rfl) (by kernel_rfl) (fun _ _ _ h => h) (Or.inl ⟨by rfl, ?_⟩) (by assumption) ?_
   rotate_left
   ·intro w hSw; (try dsimp only at hSw); go_simp; try with_reducible rfl
   try simp only [Act.put, sA, sB, sC]
   refine wpAnyH_done (by kernel_rfl) ?_ _
   refine NoPanic.normal ?_
   clear hHeld hcv10
   have z10 := hB10.out.size
   have hi10 := Lib.hid (hi89.out.below hB10.out hgl79)
   have hgl710 : g7 < w10.heap.size := by omega
   have hbel10 := below_then' hbel9 hB10.out
   have hr10 := Lib.hid (hr9.out.below hB10.out)
   have ht10 := Lib.hid (ht9.out.below hB10.out)
   have bf10 := (hB10.out.block _ (by omega)).trans bf9
   have hL := Lib.hid (litRow w10 1)
   have hNw := Lib.hid (Input.news (hi10.out.below ((Below.refl w10.heap.size w10).alloc (Nat.le_refl _) (.cells #[.int .u8 1] 5)) hgl710))
   have z5_10 : w5.heap.size < w10.heap.size := by omega
   clear hS bf9 hi89 hi9' hr9 ht9 hB10 hi10
   go_wp2_with (at_builtin; refine wpList_append_own_at _ rfl (.tmp 91) (.tmp 92) 22 rfl w10.heap.size 5 i0 _ 1 1 Tryz.underlying22 hi0 hz0 hz1 hz2 rfl (by decide) (.slice (some ⟨w10.heap.size, 0, none⟩) 1 1) 1 (u8s [1]) rfl hL.out ⟨g7, 0, none⟩ size c7 (u8s (leB (zOf neg N) size)) rfl (by simp) hNw.out (u8s_one _) (by unfold maxLen; omega) (by omega) (by simp) ?_; intro v11 w11 hown11 hgrow11 hnil11 hat11; obtain ⟨g11, c11, rfl, hg11, hgl11, hi11⟩ := Input.of_row (bs := 1 :: leB (zOf neg N) size) hown11 (by omega); have hb11 := Lib.hid (((Below.refl w10.heap.size w10).alloc (Nat.le_refl _) (.cells #[.int .u8 1] 5)).grown hgrow11 (by simp) (fun x hx => by simp [Value.ownBlock] at hx; omega)); clear hnil11 hat11 hgrow11 hown11)
   rw [Nat.add_comm 1 size] at hi11 ⊢
   have hb11' := hb11.out
   have hbel11 := below_then' hbel10 hb11'
   have hr11 := Lib.hid (hr10.out.below hb11')
   have ht11 := Lib.hid (ht10.out.below hb11')
   have bf11 := (hb11'.block _ z5_10).trans bf10
   have z11 := hb11'.size
   have hGL11 := Nat.le_trans hGL'.out hbel11.size
   have hT11 := hT'.out.below hbel11 hGL'.out
   clear hb11 hb11' hr10 ht10 bf10 hL hNw
   refine (roFixedAny w11 code size hfc'.out neg N s hs2 hNl'.out hneg'.out hT11 hGL11 g11 0 c11 hi11 hgl11).mono ?_
   rintro e w12 ⟨v12, B12, rfl, hv12, hb12⟩
   obtain ⟨bn, pn, kn, bd, pd, kd, rfl, hkn, hVn, _, _, hkd, hVd, _, _⟩ := hv12
   have z12 := hb12.size
   have hbel12 := below_then' hbel11 hb12
   have hr12 := Lib.hid (hr11.out.below hb12)
   have ht12 := Lib.hid (ht11.out.below hb12)
   have bf12 := (hb12.block _ (by omega)).trans bf11
   have hkn' := Lib.hid hkn
   have hkd' := Lib.hid hkd
   have hVn' := Lib.hid hVn
   have hVd' := Lib.hid hVd
   clear hkn hkd hVn hVd hb12 hr11 ht11 bf11 hT11 hi11
   obtain ⟨Q, hQ⟩ : ∃ x, size + 1 = x := ⟨_, rfl⟩
   rw [hQ]
   have hwQ : IntKind.i64.wrap ((size : Int) + 1) = (Q : Int) := by simp [IntKind.wrap, IntKind.bits, IntKind.signed]; omega
   have hQ' := Lib.hid hQ
   clear hQ
   obtain ⟨n1, hn1⟩ : ∃ x, x = (beB (N / Nat.gcd N (10 ^ s))).length := ⟨_, rfl⟩
   obtain ⟨n2, hn2⟩ : ∃ x, x = (beB (10 ^ s / Nat.gcd N (10 ^ s))).length := ⟨_, rfl⟩
   rw [← hn1, ← hn2]
   have hn1' := Lib.hid hn1
   have hn2' := Lib.hid hn2
   clear hn1 hn2
   have q12 : (w12.alloc (.cells noVal 52)).heap[w12.heap.size]? = some (.cells noVal 52 (0, 0)) := blk_new _ _
   obtain ⟨W13, hW13⟩ : ∃ W, W = (w12.alloc (.cells noVal 52)).setRow w12.heap.size (ratVal neg (.slice (some ⟨bn, pn, none⟩) n1 kn) (.slice (some ⟨bd, pd, none⟩) n2 kd)) := ⟨_, rfl⟩
   have q13 : W13.heap[w12.heap.size]? = some (.cells (ratVal neg (.slice (some ⟨bn, pn, none⟩) n1 kn) (.slice (some ⟨bd, pd, none⟩) n2 kd)) 52 (0, 0)) := by rw [hW13]; exact setRow_heap _ _ _ _ _ _ q12
   have hb13 : Below w12.heap.size w12 W13 := by rw [hW13]; exact below_setRow ((Below.refl _ w12).alloc (Nat.le_refl _) _) (Nat.le_refl _) _
   replace hW13 := Lib.hid hW13
   have bf13 := (hb13.block _ (by omega)).trans bf12
   have k0 : W13.cell? ⟨w12.heap.size, 0, none⟩ = some (.int .i64 7) := by rw [cellOf q13]; rfl
   have k13 : W13.cell? ⟨w12.heap.size, 13, none⟩ = some (.bool neg) := by rw [cellOf q13]; rfl
   have k14 : W13.cell? ⟨w12.heap.size, 14, none⟩ = some (.slice (some ⟨bn, pn, none⟩) n1 kn) := by rw [cellOf q13]; rfl
   have k15 : W13.cell? ⟨w12.heap.size, 15, none⟩ = some (.slice (some ⟨bd, pd, none⟩) n2 kd) := by rw [cellOf q13]; rfl
   have f0 : W13.cell? ⟨w5.heap.size, 0, none⟩ = some (.bool neg) := by rw [cellOf bf13]; rfl
   have f1 : W13.cell? ⟨w5.heap.size, 1, none⟩ = some (.slice A5 (digs LB N).length a5) := by rw [cellOf bf13]; rfl
   have f2 : W13.cell? ⟨w5.heap.size, 2, none⟩ = some (.slice B5 (digs LB (10 ^ s)).length b5) := by rw [cellOf bf13]; rfl
   go_wp2_with (refine store_valW rfl (.tmp 18) (.tmp 96) rfl _ rfl (ratVal neg (.slice (some ⟨bn, pn, none⟩) n1 kn) (.slice (some ⟨bd, pd, none⟩) n2 kd)) rfl noVal q12 rfl rfl (rat1 _ _ _ _ _ _ _) W13 hW13.out ?_)
   have hVn13 : VecB W13 bn pn (beB (N / Nat.gcd N (10 ^ s))) := fun j hj => (World.cell?_of_block (hb13.block _ (vecB_lt hVn'.out (by omega)))).trans (hVn'.out j hj)
   have hVd13 : VecB W13 bd pd (beB (10 ^ s / Nat.gcd N (10 ^ s))) := fun j hj => (World.cell?_of_block (hb13.block _ (vecB_lt hVd'.out (by omega)))).trans (hVd'.out j hj)
   rw [hn1'.out, hn2'.out]
   refine (worthBack neg hVn13 hkn'.out hVd13 hkd'.out (hr12.out.below hb13) (ht12.out.below hb13) hs2 hNl'.out (by have := hs8'.out; omega) hneg'.out).mono ?_
   rintro e w14 ⟨rfl, hb14⟩
   go_wp2_with fail
   go_ret
   exact ⟨rfl, below_then' (below_then' hbel12 hb13) hb14⟩
 ·rw [decide_eq_false hlen]
  go_wp2_with fail
  go_ret
  exact ⟨rfl, hbel1⟩
end Go.Proofs.YthocmhkafgpgbaaGreatDoor
