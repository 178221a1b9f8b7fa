/- The greatest common divisor of two numbers, the lesser of which has one word. -/
import Derived.Test.YthocmhkafgpgbaaGreatDoorM10
import Derived.Test.YthocmhkafgpgbaaGreatDoorM11
import Derived.Test.YthocmhkafgpgbaaGreatDoorM12
set_option linter.unusedVariables false
set_option linter.unusedSimpArgs false
namespace Go.Proofs.YthocmhkafgpgbaaGreatDoor
open Go.RowKit
open Go.Proofs.YthocmhkafgpgbaaGreatDoorW.PrintLast
set_option maxRecDepth 100000 in
theorem euclid_any (w : World) (base gA gB gq gr a b nq nr : Nat) (sq sr : Bool) (av bv qv rv : Value) (hA : IntAt w base gA 0 false av a) (hB : IntAt w base gB 0 false bv b) (hq : IntAt w base gq 0 sq qv nq) (hr : IntAt w base gr 0 sr rv nr)
  (hap : ∀ k, qv.ownBlock = some k → rv.ownBlock ≠ some k) (hg : gq ≠ gr) (hBs : base ≤ w.heap.size) (hl : (digs WB a).length ≤ 10000) (hb0 : b ≠ 0) (hb : b < WB) :
  Calls Tryz.prog 255 #[.pointer (some ⟨gA, 0, none⟩), .pointer (some ⟨gB, 0, none⟩), .pointer none, .pointer none, .pointer (some ⟨gq, 0, none⟩), .pointer (some ⟨gr, 0, none⟩), .bool false] w fun e w' =>
   e = .returned (.tuple #[.pointer (some ⟨gB, 0, none⟩), .pointer (some ⟨gr, 0, none⟩), .pointer (some ⟨gA, 0, none⟩), .pointer none, .pointer none]) ∧ ∃ q r s s', QROut w w' base gq 0 gr 0 qv rv q r s s' a b := by
 have hQ := Lib.hid (intQuoRem_any w base base base gq 0 gA 0 gB 0 gr 0 nq nr a b sq false false sr qv av bv rv hq hA hB hr hap hg hBs hl hb0 hb)
 clear hA hB hq hr
 go_enter Tryz.func255, Tryz.ntmps255
 go_wp2_with fail
 refine hQ.out.mono ?_
 rintro e w1 ⟨q, r, rfl, ho⟩
 have ho := Lib.hid ho
 go_wp2_with fail
 refine bodyPost_ret (v := .tuple #[.pointer (some ⟨gB, 0, none⟩), .pointer (some ⟨gr, 0, none⟩), .pointer (some ⟨gA, 0, none⟩), .pointer none, .pointer none]) (by simp [results, Tryz.results255, go_sem]) rfl ?_
 exact ⟨rfl, q, r, _, _, ho.out⟩
theorem IntOut.fresh {w0 w w' : World} {base g o n : Nat} {zv v : Value} {s : Bool} (h : IntOut w w' base g o zv s v n) (hk : Keeps (fun _ => False) w0 w) (hg : w0.heap.size ≤ g) (hv : ∀ k, zv.ownBlock = some k → w0.heap.size ≤ k) : Keeps (fun _ => False) w0 w' :=
 hk.trans h.keep (fun k hk e => e.elim (fun e => by omega) (fun e => by have := hv k e; omega))
theorem IntOut.after {w0 w w' : World} {base g o n : Nat} {zv v : Value} {s : Bool} (h : IntOut w w' base g o zv s v n) (hk : Keeps (fun _ => False) w0 w) (hg : g < w0.heap.size) : IntOut w0 w' base g o zv s v n :=
 ⟨h.at_, (hk.mono (fun _ _ x => x.elim)).trans h.keep (fun _ _ x => x), fun k hk' => (h.own k hk').imp id (fun x => Nat.le_trans hk.size x), fun i h1 h2 => (h.rest i h1 h2).trans (hk.cell (a := ⟨g, i, none⟩) hg (fun x => x))⟩
structure Pool (w0 w : World) (gA gB gq gr a b : Nat) (av bv : Value) : Prop where
 A : IntAt w w0.heap.size gA 0 false av a
 B : IntAt w w0.heap.size gB 0 false bv b
 q : IntAt w w0.heap.size gq 0 false (.slice none 0 0) 0
 r : IntAt w w0.heap.size gr 0 false (.slice none 0 0) 0
 ge : w0.heap.size ≤ gA ∧ w0.heap.size ≤ gB ∧ w0.heap.size ≤ gq ∧ w0.heap.size ≤ gr
 ne : gA ≠ gB ∧ gA ≠ gq ∧ gA ≠ gr ∧ gB ≠ gq ∧ gB ≠ gr ∧ gq ≠ gr
 ap : ∀ k, av.ownBlock = some k → bv.ownBlock ≠ some k
 keep : Keeps (fun _ => False) w0 w
theorem Pool.swap {w0 w : World} {gA gB gq gr a b : Nat} {av bv : Value} (h : Pool w0 w gA gB gq gr a b av bv) : Pool w0 w gB gA gq gr b a bv av := by
 obtain ⟨g1, g2, g3, g4⟩ := h.ge
 obtain ⟨n1, n2, n3, n4, n5, n6⟩ := h.ne
 exact ⟨h.B, h.A, h.q, h.r, ⟨g2, g1, g3, g4⟩, ⟨n1.symm, n4, n5, n2, n3, n6⟩, fun k h1 h2 => h.ap k h2 h1, h.keep⟩
theorem Pool.drewN {w0 w : World} {gA gB gq gr a b : Nat} {av bv : Value} (n : Nat) (h : Pool w0 w gA gB gq gr a b av bv) : Pool w0 (w.drewN n) gA gB gq gr a b av bv :=
 ⟨⟨h.A.known, h.A.neg, h.A.abs, h.A.nat⟩, ⟨h.B.known, h.B.neg, h.B.abs, h.B.nat⟩, ⟨h.q.known, h.q.neg, h.q.abs, h.q.nat⟩, ⟨h.r.known, h.r.neg, h.r.abs, h.r.nat⟩, h.ge, h.ne, h.ap, h.keep.drewN n⟩
theorem newAt (w : World) (base : Nat) : IntAt (w.alloc (.cells #[.bool false, .slice none 0 0] 143)) base w.heap.size 0 false (.slice none 0 0) 0 := by
 have hb := blk_new w (.cells #[.bool false, .slice none 0 0] 143 (0, 0))
 exact ⟨⟨_, _, hb⟩, by rw [cellOf hb]; rfl, by rw [cellOf hb]; rfl, by unfold NatAt; rw [digs_zero]; exact .nil _ _⟩
theorem IntAt.drewN {w : World} {base g o n : Nat} {s : Bool} {v : Value} (h : IntAt w base g o s v n) (k : Nat) : IntAt (w.drewN k) base g o s v n := ⟨h.known, h.neg, h.abs, h.nat⟩
theorem IntAt.word {W : World} {base g o c ga p : Nat} {Ca : List Nat} {s : Bool} (h : IntAt W base g o s (.slice (some ⟨ga, 0, none⟩) 1 Ca.length) c) (hb : base ≤ ga) (hC : Blk W ga Ca) (hw : Words WB Ca) (h1 : 1 ≤ Ca.length) (hl : Ca.length ≤ 1000000) (hp0 : p ≠ 0) (hp : p < WB) :
  IntAt (W.setCell ⟨ga, 0, none⟩ (.int .u64 (p : Int))) base g o s (.slice (some ⟨ga, 0, none⟩) 1 Ca.length) p := by
 have hg : ga ≠ g := fun e => NatRow.apart h.nat h.neg (by simp [Value.ownBlock, e])
 refine ⟨h.known.setCell _ _ _, (cell_set_ne (by simp [hg.symm]) _).trans h.neg, (cell_set_ne (by simp [hg.symm]) _).trans h.abs, ?_⟩
 unfold NatAt
 rw [digs_small WB_one hp0 hp]
 have h2 := NatRow.head (n := 1) (xs := [p]) hb (hC.set 0 p) (fun x hx => by
  rcases List.mem_or_eq_of_mem_set hx with h | h
  ·exact hw x h
  ·rw [h]; exact hp) (by simp; omega) (by simpa using hl) (by simpa using h1) (by
  cases Ca with
  | nil => simp at h1
  | cons x xs => simp)
 simpa using h2
theorem Keeps.word {w W : World} (h : Keeps (fun _ => False) w W) {ga : Nat} (hg : w.heap.size ≤ ga) (p : Value) : Keeps (fun _ => False) w (W.setCell ⟨ga, 0, none⟩ p) := h.setCell _ _ (fun hh => absurd hh (by simp; omega))
set_option maxRecDepth 100000 in
set_option maxHeartbeats 2000000 in
theorem gcd_any (w : World) (base bz gz nz gx ox gy oy a b : Nat) (sz : Bool) (zv xv yv : Value) (hz : IntAt w bz gz 0 sz zv nz) (hx : IntAt w base gx ox false xv a) (hy : IntAt w base gy oy false yv b) (hB : bz ≤ w.heap.size) (ha : a ≠ 0) (hb : b ≠ 0) (hs : a < WB ∨ b < WB) (hla : (digs WB a).length ≤ 1000) (hlb : (digs WB b).length ≤ 1000) :
  Calls Tryz.prog 206 #[.pointer (some ⟨gz, 0, none⟩), .pointer none, .pointer none, .pointer (some ⟨gx, ox, none⟩), .pointer (some ⟨gy, oy, none⟩)] w fun e w' => ∃ v', e = .returned (.pointer (some ⟨gz, 0, none⟩)) ∧ IntOut w w' bz gz 0 zv false v' (Nat.gcd a b) := by
 have hBz := hB
 have k0 := (Keeps.refl (fun _ => False) w).alloc (.cells #[.bool false, .slice none 0 0] 143)
 have hA := intAbs_any (w.alloc (.cells #[.bool false, .slice none 0 0] 143)) w.heap.size base w.heap.size 0 gx ox 0 a false false (.slice none 0 0) xv (newAt w _) (hx.kept k0 (fun h => h) (fun _ _ h => h)) (by have := hx.known.lt; simp only [ne_eq, Addr.mk.injEq, not_and]; intro e; omega) k0.size (by omega)
 have hA := Lib.hid hA
 go_enter Tryz.func206, Tryz.ntmps206
 go_wp2_with fail
 refine hA.out.mono ?_
 rintro e w1 ⟨av, rfl, hoA⟩
 have kA : Keeps (fun _ => False) w w1 := hoA.fresh k0 (Nat.le_refl _) (fun _ h => by simp [Value.ownBlock] at h)
 have hgA := hoA.at_.known.lt
 have k1 := kA.alloc (.cells #[.bool false, .slice none 0 0] 143)
 have hB' := intAbs_any (w1.alloc (.cells #[.bool false, .slice none 0 0] 143)) w.heap.size base w1.heap.size 0 gy oy 0 b false false (.slice none 0 0) yv (newAt w1 _) (hy.kept k1 (fun h => h) (fun _ _ h => h)) (by have := hy.known.lt; have := kA.size; simp only [ne_eq, Addr.mk.injEq, not_and]; intro e; omega) k1.size (by omega)
 have hB' := Lib.hid hB'
 go_wp2_with fail
 refine hB'.out.mono ?_
 rintro e w2 ⟨bv, rfl, hoB⟩
 have kB : Keeps (fun _ => False) w1 w2 := hoB.fresh ((Keeps.refl _ w1).alloc _) (Nat.le_refl _) (fun _ h => by simp [Value.ownBlock] at h)
 have hP : Pool w ((w2.alloc (.cells #[.bool false, .slice none 0 0] 143)).alloc (.cells #[.bool false, .slice none 0 0] 143)) w.heap.size w1.heap.size w2.heap.size (w2.heap.size + 1) a b av bv := by
  have kq := (Keeps.refl (fun _ => False) w2).alloc (.cells #[.bool false, .slice none 0 0] 143)
  have kr := kq.alloc (.cells #[.bool false, .slice none 0 0] 143)
  have s1 := hoB.at_.known.lt
  have s2 := kB.size
  have hq := newAt w2 w.heap.size
  have hr := newAt (w2.alloc (.cells #[.bool false, .slice none 0 0] 143)) w.heap.size
  simp only [World.size_alloc] at hr
  refine ⟨hoA.at_.kept (kB.trans kr (fun _ _ h => h)) (fun h => h) (fun _ _ h => h), hoB.at_.kept kr (fun h => h) (fun _ _ h => h), hq.kept ((Keeps.refl (fun _ => False) _).alloc _) (fun h => h) (fun _ _ h => h), hr, ⟨Nat.le_refl _, by omega, by omega, by omega⟩, ⟨by omega, by omega, by omega, by omega, by omega, by omega⟩, fun k h1 h2 => ?_, (kA.trans kB (fun _ _ h => h)).trans kr (fun _ _ h => h)⟩
  have := (NatRow.lt hoA.at_.nat k h1).2
  rcases hoB.own k h2 with h3 | h3
  ·simp [Value.ownBlock] at h3
  ·simp at h3; omega
 have hzk : w.heap.size ≤ w2.heap.size := Nat.le_trans kA.size kB.size
 clear hoA hoB kA kB k0 k1 hA hB' hgA
 go_wp2_with fail
 generalize hW : (w2.alloc (.cells #[.bool false, .slice none 0 0] 143)).alloc (.cells #[.bool false, .slice none 0 0] 143) = w4 at *
 clear hW
 generalize hgB : w1.heap.size = gB at *
 generalize hgq : w2.heap.size = gq at *
 generalize hgr : gq + 1 = gr at *
 clear hgB hgq hgr
 have cA : w4.drew.cell? ⟨w.heap.size, 1, none⟩ = some av := hP.A.abs
 have cB : w4.drew.cell? ⟨gB, 1, none⟩ = some bv := hP.B.abs
 have hC := cmp_any (w4.drewN 1) _ _ av bv a b hP.A.nat hP.B.nat (by omega) (by omega)
 have hPq := Lib.hid (fun q => hP.drewN q)
 generalize hgA : w.heap.size = gA at *
 clear hP
 by_cases hab : a < b
 ·rw [cmpI_lt hab] at hC
  have hC := Lib.hid hC
  go_still_tail 8, (by kernel_rfl)
  change wpList _ _ _ _ _ (w4.drewN 1)
  go_wp2_with fail
  refine hC.out.mono ?_
  rintro e w5 ⟨rfl, q, rfl⟩
  go_wp2_with fail
  go_loopw [11, 12, 13, 14, 17] (fun A B Ua Ub r wr => ∃ (g1 g2 c d : Nat) (cv dv : Value), A = .pointer (some ⟨g1, 0, none⟩) ∧ B = .pointer (some ⟨g2, 0, none⟩) ∧ Ua = .pointer none ∧ Ub = .pointer none ∧ r = .pointer (some ⟨gr, 0, none⟩) ∧ Pool w wr g1 g2 gq gr c d cv dv ∧ c ≠ 0 ∧ d ≠ 0 ∧ d < WB ∧ (digs WB c).length ≤ 1000 ∧ Nat.gcd c d = Nat.gcd a b) (fun _ _ _ _ _ _ => 0)
  case atStart => exact ⟨gB, gA, b, a, bv, av, rfl, rfl, rfl, rfl, rfl, (hPq.out _).swap, hb, ha, by omega, hlb, Nat.gcd_comm _ _⟩
  case round =>
   obtain ⟨g1, g2, c, d, cv, dv, rfl, rfl, rfl, rfl, rfl, hP, hc0, hd0, hdW, hlc, hG⟩ := hrel
   obtain ⟨wo, hwo⟩ : ∃ x, x = wr := ⟨_, rfl⟩
   subst hwo
   obtain ⟨pc, kc, rfl⟩ := NatRow.form hP.A.nat
   obtain ⟨pd, kd, rfl⟩ := NatRow.form hP.B.nat
   have cA := hP.A.abs
   have cB := hP.B.abs
   have hd1 : (digs WB d).length = 1 := by rw [digs_small WB_one hd0 hdW]; rfl
   rw [hd1] at cB
   rw [Nat.zero_add] at cA cB
   by_cases hcW : c < WB
   ·have hc1 : (digs WB c).length = 1 := by rw [digs_small WB_one hc0 hcW]; rfl
    rw [hc1] at cA
    go_wp2_with fail
    have hrX := hP.A.nat
    have hrY := hP.B.nat
    unfold NatAt at hrX hrY
    rw [digs_small WB_one hc0 hcW] at hrX
    rw [digs_small WB_one hd0 hdW] at hrY
    have c1 := hP.A.abs
    have c2 := hP.B.abs
    rw [Nat.zero_add] at c1 c2
    rw [digs_small WB_one hc0 hcW] at c1
    rw [digs_small WB_one hd0 hdW] at c2
    obtain ⟨ga, Ca, hva, hga, hCa, hwa, hta, h0a, hla', haC⟩ := hrX.mk' (by simp)
    obtain ⟨gb, Cb, hvb, hgb, hCb, hwb, htb, h0b, hlb', hbC⟩ := hrY.mk' (by simp)
    have c3 := hCa.row (xs := [c]) hta (by simpa using haC) 0 (by simp)
    have c4 := hCb.row (xs := [d]) htb (by simpa using hbC) 0 (by simp)
    simp only [List.length_cons, List.length_nil, Nat.zero_add, List.getElem_cons_zero] at hva hvb c1 c2 c3 c4 haC hbC
    rw [hva] at c1
    rw [hvb] at c2
    have hX6 := hP.A
    rw [digs_small WB_one hc0 hcW] at hX6
    simp only [List.length_cons, List.length_nil, Nat.zero_add] at hX6
    rw [hva] at hX6
    have hX6 := Lib.hid hX6
    go_wp2_with fail
    refine start_ (n := 14) (S := fun W => W.cell? ⟨g1, 1, none⟩ = some (.slice (some ⟨ga, 0, none⟩) 1 Ca.length) ∧ W.cell? ⟨ga, 0, none⟩ = some (.int .u64 (c : Int)) ∧ W.cell? ⟨g2, 1, none⟩ = some (.slice (some ⟨gb, 0, none⟩) 1 Cb.length) ∧ W.cell? ⟨gb, 0, none⟩ = some (.int .u64 (d : Int))) (ds := []) z18 (by kernel_rfl) rfl rfl ⟨c1, c3, c2, c4⟩ (fun hHeld => ?_)
    refine pure_ (i := 0) (N := some 149) (v := ?_) (a' := ?_) z19 rfl rfl (by kernel_rfl) (fun _ _ _ h => h) (Or.inl ⟨by rfl, ?_⟩) ?_ ?_
    rotate_left
    ·intro w'; go_simp; try with_reducible rfl
    rotate_left
    ·simp only [Act.put, sA, sB, sC]; rfl
    refine pure_ (i := 1) (N := some 150) (v := ?_) (a' := ?_) z20 rfl rfl (by kernel_rfl) (fun _ _ _ h => h) (Or.inl ⟨by rfl, ?_⟩) ?_ ?_
    rotate_left
    ·intro w'; go_simp; try with_reducible rfl
    rotate_left
    ·simp only [Act.put, sA, sB, sC]; rfl
    refine pure_ (i := 2) (N := some 151) (v := ?_) (a' := ?_) z21 rfl rfl (by kernel_rfl) (fun _ _ _ h => h) (Or.inl ⟨by rfl, ?_⟩) ?_ ?_
    rotate_left
    ·intro w'; go_simp; try with_reducible rfl
    rotate_left
    ·simp only [Act.put, sA, sB, sC]; rfl
    refine take_ (i := 3) (N := some 152) (v := ?_) (a' := ?_) z22 rfl rfl (by kernel_rfl) (fun _ _ _ h => h) (Or.inl ⟨by rfl, ?_⟩) hHeld ?_ ?_
    rotate_left
    ·rintro w' ⟨s0, s1, s2, s3⟩; go_simp; try with_reducible rfl
    rotate_left
    ·simp only [Act.put, sA, sB, sC]; rfl
    refine pure_ (i := 4) (N := some 153) (v := ?_) (a' := ?_) z23 rfl rfl (by kernel_rfl) (fun _ _ _ h => h) (Or.inl ⟨by rfl, ?_⟩) ?_ ?_
    rotate_left
    ·intro w'; go_simp; try with_reducible rfl
    rotate_left
    ·simp only [Act.put, sA, sB, sC]; rfl
    refine take_ (i := 5) (N := some 154) (v := ?_) (a' := ?_) z24 rfl rfl (by kernel_rfl) (fun _ _ _ h => h) (Or.inl ⟨by rfl, ?_⟩) hHeld ?_ ?_
    rotate_left
    ·rintro w' ⟨s0, s1, s2, s3⟩; go_simp; try with_reducible rfl
    rotate_left
    ·simp only [Act.put, sA, sB, sC]; rfl
    refine pure_ (i := 6) (N := some 155) (v := ?_) (a' := ?_) z25 rfl rfl (by kernel_rfl) (fun _ _ _ h => h) (Or.inl ⟨by rfl, ?_⟩) ?_ ?_
    rotate_left
    ·intro w'; go_simp; try with_reducible rfl
    rotate_left
    ·simp only [Act.put, sA, sB, sC]; rfl
    refine pure_ (i := 7) (N := some 156) (v := ?_) (a' := ?_) z26 rfl rfl (by kernel_rfl) (fun _ _ _ h => h) (Or.inl ⟨by rfl, ?_⟩) ?_ ?_
    rotate_left
    ·intro w'; go_simp; try with_reducible rfl
    rotate_left
    ·simp only [Act.put, sA, sB, sC]; rfl
    refine pure_ (i := 8) (N := some 157) (v := ?_) (a' := ?_) z27 rfl rfl (by kernel_rfl) (fun _ _ _ h => h) (Or.inl ⟨by rfl, ?_⟩) ?_ ?_
    rotate_left
    ·intro w'; go_simp; try with_reducible rfl
    rotate_left
    ·simp only [Act.put, sA, sB, sC]; rfl
    refine take_ (i := 9) (N := some 158) (v := ?_) (a' := ?_) z28 rfl rfl (by kernel_rfl) (fun _ _ _ h => h) (Or.inl ⟨by rfl, ?_⟩) hHeld ?_ ?_
    rotate_left
    ·rintro w' ⟨s0, s1, s2, s3⟩; go_simp; try with_reducible rfl
    rotate_left
    ·simp only [Act.put, sA, sB, sC]; rfl
    refine pure_ (i := 10) (N := some 159) (v := ?_) (a' := ?_) z29 rfl rfl (by kernel_rfl) (fun _ _ _ h => h) (Or.inl ⟨by rfl, ?_⟩) ?_ ?_
    rotate_left
    ·intro w'; go_simp; try with_reducible rfl
    rotate_left
    ·simp only [Act.put, sA, sB, sC]; rfl
    refine take_ (i := 11) (N := some 160) (v := ?_) (a' := ?_) z30 rfl rfl (by kernel_rfl) (fun _ _ _ h => h) (Or.inl ⟨by rfl, ?_⟩) hHeld ?_ ?_
    rotate_left
    ·rintro w' ⟨s0, s1, s2, s3⟩; go_simp; try with_reducible rfl
    rotate_left
    ·simp only [Act.put, sA, sB, sC]; rfl
    refine pure_ (i := 12) (N := some 23) (v := ?_) (a' := ?_) z31 rfl rfl (by kernel_rfl) (fun _ _ _ h => h) (Or.inl ⟨by rfl, ?_⟩) ?_ ?_
    rotate_left
    ·intro w'; go_simp; try with_reducible rfl
    rotate_left
    ·simp only [Act.put, sA, sB, sC]; rfl
    refine pure_ (i := 13) (N := some 24) (v := ?_) (a' := ?_) z32 rfl rfl (by kernel_rfl) (fun _ _ _ h => h) (Or.inl ⟨by rfl, ?_⟩) ?_ ?_
    rotate_left
    ·intro w'; go_simp; try with_reducible rfl
    rotate_left
    ·simp only [Act.put, sA, sB, sC]; rfl
    refine done_ (by kernel_rfl) ?_
    go_wp2_with fail
    go_loopw [23, 24] (fun x y wx => ∃ p r n : Nat, x = .int .u64 p ∧ y = .int .u64 r ∧ p ≠ 0 ∧ p < WB ∧ r < WB ∧ Nat.gcd p r = Nat.gcd a b ∧ wx = wo.drewN n) (fun _ y _ => (intOf y).toNat)
    case atStart => exact ⟨c, d, 1, rfl, rfl, hc0, hcW, hdW, hG, rfl⟩
    case round =>
     obtain ⟨p, r, n, rfl, rfl, hp0, hpW, hrW, hG', hwx⟩ := hrel
     by_cases hr0 : r = 0
     ·subst hr0
      rw [Nat.gcd_zero_right] at hG'
      have hCx : Blk (wo.drewN n) ga Ca := hCa
      have hX7 := hX6.out.drewN n
      have c1d : (wo.drewN n).cell? ⟨g1, 1, none⟩ = some (.slice (some ⟨ga, 0, none⟩) 1 Ca.length) := c1
      have kx : Keeps (fun _ => False) w (wo.drewN n) := (hP.keep).drewN n
      rw [← hwx] at hCx hX7 c1d kx
      clear hwx
      have hfa := hCx.frozen 0
      have hca := hCx.cell 0 (by omega)
      have hX7 := hX7.word (p := p) hga hCx hwa (by omega) hla' hp0 hpW
      have k7 := kx.word hga (.int .u64 (p : Int))
      have hz7 := hz.kept k7 (fun h => h) (fun _ _ h => h)
      have cx7 := k7.cellS hx.neg (fun h => h)
      have cxr := kx.cellS hx.neg (fun h => h)
      have hne1 : gx ≠ ga := by have := hx.known.lt; omega
      have hne2 : ga ≠ gx := hne1.symm
      have hge : w.heap.size ≤ g1 := hP.ge.1
      have hS := intSet_any (wr.setCell ⟨ga, 0, none⟩ (.int .u64 (p : Int))) bz w.heap.size gz 0 g1 0 nz p sz false zv _ hz7 hX7 (by have := hz.known.lt; simp only [ne_eq, Addr.mk.injEq, not_and]; intro e; omega) (Nat.le_trans (by omega) k7.size) (by rw [digs_small WB_one hp0 hpW]; simp)
      have hS := Lib.hid hS
      have hfin := Lib.hid (fun (w9 : World) (v' : Value) (h9 : IntOut (wr.setCell ⟨ga, 0, none⟩ (.int .u64 (p : Int))) w9 bz gz 0 zv false v' p) => h9.after k7 hz.known.lt)
      clear hX7 hz7 kx k7
      have hGH := Lib.hid hG'
      clear hG'
      go_wp2_with fail
      refine hS.out.mono ?_
      rintro e w9 ⟨v', rfl, h9⟩
      have h9 := Lib.hid (hfin.out w9 v' h9)
      go_wp2_with fail
      go_ret
      refine ⟨v', rfl, ?_⟩
      rw [← hGH.out]
      exact h9.out
     ·have t1 : ((r : Int) == 0) = false := by simp; omega
      have t2 : ¬ (r : Int) = 0 := by omega
      have hml := Nat.mod_lt p (show r > 0 by omega)
      have e1 : Int.tmod (p : Int) (r : Int) = ((p % r : Nat) : Int) := rfl
      have hg2 : Nat.gcd r (p % r) = Nat.gcd a b := by rw [← hG', Nat.gcd_comm p r, Nat.gcd_rec r p, Nat.gcd_comm]
      have hwx := Lib.hid hwx
      go_wp2_with fail
      go_region
      all_goals go_wp2_with fail
      all_goals go_roundw
      case rel => exact ⟨r, p % r, n + 1, rfl, by first | rfl | simp, hr0, hrW, by omega, hg2, by first | rfl | (rw [hwx.out]; rfl)⟩
      case measure => simp [intOf]; omega
   ·have hc2 : (1 : Int) < (digs WB c).length := by
     have : ¬ (digs WB c).length ≤ 1 := fun h => hcW (by have := (digs_length_le WB_one).1 h; rwa [Nat.pow_one] at this)
     omega
    obtain ⟨n1, n2, n3, n4, n5, n6⟩ := hP.ne
    obtain ⟨ge1, ge2, ge3, ge4⟩ := hP.ge
    have hE := Lib.hid (euclid_any wo w.heap.size g1 g2 gq gr c d 0 0 false false _ _ _ _ hP.A hP.B hP.q hP.r (fun k h => by simp [Value.ownBlock] at h) n6 hP.keep.size (by omega) hd0 hdW)
    go_wp2_with fail
    refine hE.out.mono ?_
    rintro e w5 ⟨rfl, q5, r5, s1, s2, hQ⟩
    have kQ := hQ.keep
    have hB5 := hP.B.kept (T := fun k => k = gq ∨ k = gr ∨ (Value.slice none 0 0).ownBlock = some k ∨ (Value.slice none 0 0).ownBlock = some k) kQ (fun h => by simp [Value.ownBlock] at h; omega) (fun k hk h => by
     have a1 := NatRow.apart hP.B.nat hP.q.neg
     have a2 := NatRow.apart hP.B.nat hP.r.neg
     rcases h with h | h | h | h
     ·exact a1 (by rw [hk, h])
     ·exact a2 (by rw [hk, h])
     ·simp [Value.ownBlock] at h
     ·simp [Value.ownBlock] at h)
    have hR5 := hQ.rem
    have kW5 : Keeps (fun _ => False) w w5 := hP.keep.trans kQ (fun k hk h => by
     rcases h with h | h | h | h
     ·omega
     ·omega
     ·simp [Value.ownBlock] at h
     ·simp [Value.ownBlock] at h)
    have hml := Nat.mod_lt c (show d > 0 by omega)
    have hG5 : Nat.gcd d (c % d) = Nat.gcd a b := by rw [← hG, Nat.gcd_comm c d, Nat.gcd_rec d c, Nat.gcd_comm]
    clear hQ kQ
    generalize hm : c % d = m at *
    obtain ⟨pr, kr, rfl⟩ := NatRow.form hR5.nat
    have cA5 := hB5.abs
    have cB5 := hR5.abs
    rw [hd1] at cA5
    rw [Nat.zero_add] at cA5 cB5
    have cx5 := kW5.cellS hx.neg (fun h => h)
    by_cases hm0 : m = 0
    ·have hm1 : (digs WB m).length = 0 := by rw [hm0, digs_zero]; rfl
     rw [hm1] at cB5
     rw [hm0, Nat.gcd_zero_right] at hG5
     have hz5 := hz.kept kW5 (fun h => h) (fun _ _ h => h)
     have hS := Lib.hid (intSet_any w5 bz w.heap.size gz 0 g2 0 nz d sz false zv _ hz5 hB5 (by have := hz.known.lt; simp only [ne_eq, Addr.mk.injEq, not_and]; intro e; omega) (Nat.le_trans (by omega) kW5.size) (by rw [hd1]; omega))
     have hfin := Lib.hid (fun (w9 : World) (v' : Value) (h9 : IntOut w5 w9 bz gz 0 zv false v' d) => h9.after kW5 hz.known.lt)
     have hGH := Lib.hid hG5
     clear hG5 hz5
     go_wp2_with fail
     refine hS.out.mono ?_
     rintro e w9 ⟨v', rfl, h9⟩
     have h9 := Lib.hid (hfin.out w9 v' h9)
     go_wp2_with fail
     go_ret
     refine ⟨v', rfl, ?_⟩
     rw [← hGH.out]
     exact h9.out
    ·have hm1 : (digs WB m).length = 1 := by rw [digs_small WB_one hm0 (by omega)]; rfl
     rw [hm1] at cB5
     have hmW : m < WB := by omega
     go_wp2_with fail
     have hrX := hB5.nat
     have hrY := hR5.nat
     unfold NatAt at hrX hrY
     rw [digs_small WB_one hd0 hdW] at hrX
     rw [digs_small WB_one hm0 hmW] at hrY
     have c1 := hB5.abs
     have c2 := hR5.abs
     rw [Nat.zero_add] at c1 c2
     rw [digs_small WB_one hd0 hdW] at c1
     rw [digs_small WB_one hm0 hmW] at c2
     obtain ⟨ga, Ca, hva, hga, hCa, hwa, hta, h0a, hla', haC⟩ := hrX.mk' (by simp)
     obtain ⟨gb, Cb, hvb, hgb, hCb, hwb, htb, h0b, hlb', hbC⟩ := hrY.mk' (by simp)
     have c3 := hCa.row (xs := [d]) hta (by simpa using haC) 0 (by simp)
     have c4 := hCb.row (xs := [m]) htb (by simpa using hbC) 0 (by simp)
     simp only [List.length_cons, List.length_nil, Nat.zero_add, List.getElem_cons_zero] at hva hvb c1 c2 c3 c4 haC hbC
     rw [hva] at c1
     rw [hvb] at c2
     have hX6 := hB5
     rw [digs_small WB_one hd0 hdW] at hX6
     simp only [List.length_cons, List.length_nil, Nat.zero_add] at hX6
     rw [hva] at hX6
     have hX6 := Lib.hid hX6
     go_wp2_with fail
     refine start_ (n := 14) (S := fun W => W.cell? ⟨g2, 1, none⟩ = some (.slice (some ⟨ga, 0, none⟩) 1 Ca.length) ∧ W.cell? ⟨ga, 0, none⟩ = some (.int .u64 (d : Int)) ∧ W.cell? ⟨gr, 1, none⟩ = some (.slice (some ⟨gb, 0, none⟩) 1 Cb.length) ∧ W.cell? ⟨gb, 0, none⟩ = some (.int .u64 (m : Int))) (ds := []) z18 (by kernel_rfl) rfl rfl ⟨c1, c3, c2, c4⟩ (fun hHeld => ?_)
     refine pure_ (i := 0) (N := some 149) (v := ?_) (a' := ?_) z19 rfl rfl (by kernel_rfl) (fun _ _ _ h => h) (Or.inl ⟨by rfl, ?_⟩) ?_ ?_
     rotate_left
     ·intro w'; go_simp; try with_reducible rfl
     rotate_left
     ·simp only [Act.put, sA, sB, sC]; rfl
     refine pure_ (i := 1) (N := some 150) (v := ?_) (a' := ?_) z20 rfl rfl (by kernel_rfl) (fun _ _ _ h => h) (Or.inl ⟨by rfl, ?_⟩) ?_ ?_
     rotate_left
     ·intro w'; go_simp; try with_reducible rfl
     rotate_left
     ·simp only [Act.put, sA, sB, sC]; rfl
     refine pure_ (i := 2) (N := some 151) (v := ?_) (a' := ?_) z21 rfl rfl (by kernel_rfl) (fun _ _ _ h => h) (Or.inl ⟨by rfl, ?_⟩) ?_ ?_
     rotate_left
     ·intro w'; go_simp; try with_reducible rfl
     rotate_left
     ·simp only [Act.put, sA, sB, sC]; rfl
     refine take_ (i := 3) (N := some 152) (v := ?_) (a' := ?_) z22 rfl rfl (by kernel_rfl) (fun _ _ _ h => h) (Or.inl ⟨by rfl, ?_⟩) hHeld ?_ ?_
     rotate_left
     ·rintro w' ⟨s0, s1, s2, s3⟩; go_simp; try with_reducible rfl
     rotate_left
     ·simp only [Act.put, sA, sB, sC]; rfl
     refine pure_ (i := 4) (N := some 153) (v := ?_) (a' := ?_) z23 rfl rfl (by kernel_rfl) (fun _ _ _ h => h) (Or.inl ⟨by rfl, ?_⟩) ?_ ?_
     rotate_left
     ·intro w'; go_simp; try with_reducible rfl
     rotate_left
     ·simp only [Act.put, sA, sB, sC]; rfl
     refine take_ (i := 5) (N := some 154) (v := ?_) (a' := ?_) z24 rfl rfl (by kernel_rfl) (fun _ _ _ h => h) (Or.inl ⟨by rfl, ?_⟩) hHeld ?_ ?_
     rotate_left
     ·rintro w' ⟨s0, s1, s2, s3⟩; go_simp; try with_reducible rfl
     rotate_left
     ·simp only [Act.put, sA, sB, sC]; rfl
     refine pure_ (i := 6) (N := some 155) (v := ?_) (a' := ?_) z25 rfl rfl (by kernel_rfl) (fun _ _ _ h => h) (Or.inl ⟨by rfl, ?_⟩) ?_ ?_
     rotate_left
     ·intro w'; go_simp; try with_reducible rfl
     rotate_left
     ·simp only [Act.put, sA, sB, sC]; rfl
     refine pure_ (i := 7) (N := some 156) (v := ?_) (a' := ?_) z26 rfl rfl (by kernel_rfl) (fun _ _ _ h => h) (Or.inl ⟨by rfl, ?_⟩) ?_ ?_
     rotate_left
     ·intro w'; go_simp; try with_reducible rfl
     rotate_left
     ·simp only [Act.put, sA, sB, sC]; rfl
     refine pure_ (i := 8) (N := some 157) (v := ?_) (a' := ?_) z27 rfl rfl (by kernel_rfl) (fun _ _ _ h => h) (Or.inl ⟨by rfl, ?_⟩) ?_ ?_
     rotate_left
     ·intro w'; go_simp; try with_reducible rfl
     rotate_left
     ·simp only [Act.put, sA, sB, sC]; rfl
     refine take_ (i := 9) (N := some 158) (v := ?_) (a' := ?_) z28 rfl rfl (by kernel_rfl) (fun _ _ _ h => h) (Or.inl ⟨by rfl, ?_⟩) hHeld ?_ ?_
     rotate_left
     ·rintro w' ⟨s0, s1, s2, s3⟩; go_simp; try with_reducible rfl
     rotate_left
     ·simp only [Act.put, sA, sB, sC]; rfl
     refine pure_ (i := 10) (N := some 159) (v := ?_) (a' := ?_) z29 rfl rfl (by kernel_rfl) (fun _ _ _ h => h) (Or.inl ⟨by rfl, ?_⟩) ?_ ?_
     rotate_left
     ·intro w'; go_simp; try with_reducible rfl
     rotate_left
     ·simp only [Act.put, sA, sB, sC]; rfl
     refine take_ (i := 11) (N := some 160) (v := ?_) (a' := ?_) z30 rfl rfl (by kernel_rfl) (fun _ _ _ h => h) (Or.inl ⟨by rfl, ?_⟩) hHeld ?_ ?_
     rotate_left
     ·rintro w' ⟨s0, s1, s2, s3⟩; go_simp; try with_reducible rfl
     rotate_left
     ·simp only [Act.put, sA, sB, sC]; rfl
     refine pure_ (i := 12) (N := some 23) (v := ?_) (a' := ?_) z31 rfl rfl (by kernel_rfl) (fun _ _ _ h => h) (Or.inl ⟨by rfl, ?_⟩) ?_ ?_
     rotate_left
     ·intro w'; go_simp; try with_reducible rfl
     rotate_left
     ·simp only [Act.put, sA, sB, sC]; rfl
     refine pure_ (i := 13) (N := some 24) (v := ?_) (a' := ?_) z32 rfl rfl (by kernel_rfl) (fun _ _ _ h => h) (Or.inl ⟨by rfl, ?_⟩) ?_ ?_
     rotate_left
     ·intro w'; go_simp; try with_reducible rfl
     rotate_left
     ·simp only [Act.put, sA, sB, sC]; rfl
     refine done_ (by kernel_rfl) ?_
     go_wp2_with fail
     go_loopw [23, 24] (fun x y wx => ∃ p r n : Nat, x = .int .u64 p ∧ y = .int .u64 r ∧ p ≠ 0 ∧ p < WB ∧ r < WB ∧ Nat.gcd p r = Nat.gcd a b ∧ wx = w5.drewN n) (fun _ y _ => (intOf y).toNat)
     case atStart => exact ⟨d, m, 1, rfl, rfl, hd0, hdW, hmW, hG5, rfl⟩
     case round =>
      obtain ⟨p, r, n, rfl, rfl, hp0, hpW, hrW, hG', hwx⟩ := hrel
      by_cases hr0 : r = 0
      ·subst hr0
       rw [Nat.gcd_zero_right] at hG'
       have hCx : Blk (w5.drewN n) ga Ca := hCa
       have hX7 := hX6.out.drewN n
       have c1d : (w5.drewN n).cell? ⟨g2, 1, none⟩ = some (.slice (some ⟨ga, 0, none⟩) 1 Ca.length) := c1
       have kx : Keeps (fun _ => False) w (w5.drewN n) := (kW5).drewN n
       rw [← hwx] at hCx hX7 c1d kx
       clear hwx
       have hfa := hCx.frozen 0
       have hca := hCx.cell 0 (by omega)
       have hX7 := hX7.word (p := p) hga hCx hwa (by omega) hla' hp0 hpW
       have k7 := kx.word hga (.int .u64 (p : Int))
       have hz7 := hz.kept k7 (fun h => h) (fun _ _ h => h)
       have cx7 := k7.cellS hx.neg (fun h => h)
       have cxr := kx.cellS hx.neg (fun h => h)
       have hne1 : gx ≠ ga := by have := hx.known.lt; omega
       have hne2 : ga ≠ gx := hne1.symm
       have hge : w.heap.size ≤ g2 := ge2
       have hS := intSet_any (wr.setCell ⟨ga, 0, none⟩ (.int .u64 (p : Int))) bz w.heap.size gz 0 g2 0 nz p sz false zv _ hz7 hX7 (by have := hz.known.lt; simp only [ne_eq, Addr.mk.injEq, not_and]; intro e; omega) (Nat.le_trans (by omega) k7.size) (by rw [digs_small WB_one hp0 hpW]; simp)
       have hS := Lib.hid hS
       have hfin := Lib.hid (fun (w9 : World) (v' : Value) (h9 : IntOut (wr.setCell ⟨ga, 0, none⟩ (.int .u64 (p : Int))) w9 bz gz 0 zv false v' p) => h9.after k7 hz.known.lt)
       clear hX7 hz7 kx k7
       have hGH := Lib.hid hG'
       clear hG'
       go_wp2_with fail
       refine hS.out.mono ?_
       rintro e w9 ⟨v', rfl, h9⟩
       have h9 := Lib.hid (hfin.out w9 v' h9)
       go_wp2_with fail
       go_ret
       refine ⟨v', rfl, ?_⟩
       rw [← hGH.out]
       exact h9.out
      ·have t1 : ((r : Int) == 0) = false := by simp; omega
       have t2 : ¬ (r : Int) = 0 := by omega
       have hml := Nat.mod_lt p (show r > 0 by omega)
       have e1 : Int.tmod (p : Int) (r : Int) = ((p % r : Nat) : Int) := rfl
       have hg2 : Nat.gcd r (p % r) = Nat.gcd a b := by rw [← hG', Nat.gcd_comm p r, Nat.gcd_rec r p, Nat.gcd_comm]
       have hwx := Lib.hid hwx
       go_wp2_with fail
       go_region
       all_goals go_wp2_with fail
       all_goals go_roundw
       case rel => exact ⟨r, p % r, n + 1, rfl, by first | rfl | simp, hr0, hrW, by omega, hg2, by first | rfl | (rw [hwx.out]; rfl)⟩
       case measure => simp [intOf]; omega
 ·have hcm : ¬ (cmpI a b) < 0 := by unfold cmpI; rw [if_neg hab]; split <;> omega
  generalize cmpI a b = cm at *
  have hC := Lib.hid hC
  go_still_tail 8, (by kernel_rfl)
  change wpList _ _ _ _ _ (w4.drewN 1)
  go_wp2_with fail
  refine hC.out.mono ?_
  rintro e w5 ⟨rfl, q, rfl⟩
  go_wp2_with fail
  go_loopw [11, 12, 13, 14, 17] (fun A B Ua Ub r wr => ∃ (g1 g2 c d : Nat) (cv dv : Value), A = .pointer (some ⟨g1, 0, none⟩) ∧ B = .pointer (some ⟨g2, 0, none⟩) ∧ Ua = .pointer none ∧ Ub = .pointer none ∧ r = .pointer (some ⟨gr, 0, none⟩) ∧ Pool w wr g1 g2 gq gr c d cv dv ∧ c ≠ 0 ∧ d ≠ 0 ∧ d < WB ∧ (digs WB c).length ≤ 1000 ∧ Nat.gcd c d = Nat.gcd a b) (fun _ _ _ _ _ _ => 0)
  case atStart => exact ⟨gA, gB, a, b, av, bv, rfl, rfl, rfl, rfl, rfl, hPq.out _, ha, hb, by omega, hla, rfl⟩
  case round =>
   obtain ⟨g1, g2, c, d, cv, dv, rfl, rfl, rfl, rfl, rfl, hP, hc0, hd0, hdW, hlc, hG⟩ := hrel
   obtain ⟨wo, hwo⟩ : ∃ x, x = wr := ⟨_, rfl⟩
   subst hwo
   obtain ⟨pc, kc, rfl⟩ := NatRow.form hP.A.nat
   obtain ⟨pd, kd, rfl⟩ := NatRow.form hP.B.nat
   have cA := hP.A.abs
   have cB := hP.B.abs
   have hd1 : (digs WB d).length = 1 := by rw [digs_small WB_one hd0 hdW]; rfl
   rw [hd1] at cB
   rw [Nat.zero_add] at cA cB
   by_cases hcW : c < WB
   ·have hc1 : (digs WB c).length = 1 := by rw [digs_small WB_one hc0 hcW]; rfl
    rw [hc1] at cA
    go_wp2_with fail
    have hrX := hP.A.nat
    have hrY := hP.B.nat
    unfold NatAt at hrX hrY
    rw [digs_small WB_one hc0 hcW] at hrX
    rw [digs_small WB_one hd0 hdW] at hrY
    have c1 := hP.A.abs
    have c2 := hP.B.abs
    rw [Nat.zero_add] at c1 c2
    rw [digs_small WB_one hc0 hcW] at c1
    rw [digs_small WB_one hd0 hdW] at c2
    obtain ⟨ga, Ca, hva, hga, hCa, hwa, hta, h0a, hla', haC⟩ := hrX.mk' (by simp)
    obtain ⟨gb, Cb, hvb, hgb, hCb, hwb, htb, h0b, hlb', hbC⟩ := hrY.mk' (by simp)
    have c3 := hCa.row (xs := [c]) hta (by simpa using haC) 0 (by simp)
    have c4 := hCb.row (xs := [d]) htb (by simpa using hbC) 0 (by simp)
    simp only [List.length_cons, List.length_nil, Nat.zero_add, List.getElem_cons_zero] at hva hvb c1 c2 c3 c4 haC hbC
    rw [hva] at c1
    rw [hvb] at c2
    have hX6 := hP.A
    rw [digs_small WB_one hc0 hcW] at hX6
    simp only [List.length_cons, List.length_nil, Nat.zero_add] at hX6
    rw [hva] at hX6
    have hX6 := Lib.hid hX6
    go_wp2_with fail
    refine start_ (n := 14) (S := fun W => W.cell? ⟨g1, 1, none⟩ = some (.slice (some ⟨ga, 0, none⟩) 1 Ca.length) ∧ W.cell? ⟨ga, 0, none⟩ = some (.int .u64 (c : Int)) ∧ W.cell? ⟨g2, 1, none⟩ = some (.slice (some ⟨gb, 0, none⟩) 1 Cb.length) ∧ W.cell? ⟨gb, 0, none⟩ = some (.int .u64 (d : Int))) (ds := []) z18 (by kernel_rfl) rfl rfl ⟨c1, c3, c2, c4⟩ (fun hHeld => ?_)
    refine pure_ (i := 0) (N := some 149) (v := ?_) (a' := ?_) z19 rfl rfl (by kernel_rfl) (fun _ _ _ h => h) (Or.inl ⟨by rfl, ?_⟩) ?_ ?_
    rotate_left
    ·intro w'; go_simp; try with_reducible rfl
    rotate_left
    ·simp only [Act.put, sA, sB, sC]; rfl
    refine pure_ (i := 1) (N := some 150) (v := ?_) (a' := ?_) z20 rfl rfl (by kernel_rfl) (fun _ _ _ h => h) (Or.inl ⟨by rfl, ?_⟩) ?_ ?_
    rotate_left
    ·intro w'; go_simp; try with_reducible rfl
    rotate_left
    ·simp only [Act.put, sA, sB, sC]; rfl
    refine pure_ (i := 2) (N := some 151) (v := ?_) (a' := ?_) z21 rfl rfl (by kernel_rfl) (fun _ _ _ h => h) (Or.inl ⟨by rfl, ?_⟩) ?_ ?_
    rotate_left
    ·intro w'; go_simp; try with_reducible rfl
    rotate_left
    ·simp only [Act.put, sA, sB, sC]; rfl
    refine take_ (i := 3) (N := some 152) (v := ?_) (a' := ?_) z22 rfl rfl (by kernel_rfl) (fun _ _ _ h => h) (Or.inl ⟨by rfl, ?_⟩) hHeld ?_ ?_
    rotate_left
    ·rintro w' ⟨s0, s1, s2, s3⟩; go_simp; try with_reducible rfl
    rotate_left
    ·simp only [Act.put, sA, sB, sC]; rfl
    refine pure_ (i := 4) (N := some 153) (v := ?_) (a' := ?_) z23 rfl rfl (by kernel_rfl) (fun _ _ _ h => h) (Or.inl ⟨by rfl, ?_⟩) ?_ ?_
    rotate_left
    ·intro w'; go_simp; try with_reducible rfl
    rotate_left
    ·simp only [Act.put, sA, sB, sC]; rfl
    refine take_ (i := 5) (N := some 154) (v := ?_) (a' := ?_) z24 rfl rfl (by kernel_rfl) (fun _ _ _ h => h) (Or.inl ⟨by rfl, ?_⟩) hHeld ?_ ?_
    rotate_left
    ·rintro w' ⟨s0, s1, s2, s3⟩; go_simp; try with_reducible rfl
    rotate_left
    ·simp only [Act.put, sA, sB, sC]; rfl
    refine pure_ (i := 6) (N := some 155) (v := ?_) (a' := ?_) z25 rfl rfl (by kernel_rfl) (fun _ _ _ h => h) (Or.inl ⟨by rfl, ?_⟩) ?_ ?_
    rotate_left
    ·intro w'; go_simp; try with_reducible rfl
    rotate_left
    ·simp only [Act.put, sA, sB, sC]; rfl
    refine pure_ (i := 7) (N := some 156) (v := ?_) (a' := ?_) z26 rfl rfl (by kernel_rfl) (fun _ _ _ h => h) (Or.inl ⟨by rfl, ?_⟩) ?_ ?_
    rotate_left
    ·intro w'; go_simp; try with_reducible rfl
    rotate_left
    ·simp only [Act.put, sA, sB, sC]; rfl
    refine pure_ (i := 8) (N := some 157) (v := ?_) (a' := ?_) z27 rfl rfl (by kernel_rfl) (fun _ _ _ h => h) (Or.inl ⟨by rfl, ?_⟩) ?_ ?_
    rotate_left
    ·intro w'; go_simp; try with_reducible rfl
    rotate_left
    ·simp only [Act.put, sA, sB, sC]; rfl
    refine take_ (i := 9) (N := some 158) (v := ?_) (a' := ?_) z28 rfl rfl (by kernel_rfl) (fun _ _ _ h => h) (Or.inl ⟨by rfl, ?_⟩) hHeld ?_ ?_
    rotate_left
    ·rintro w' ⟨s0, s1, s2, s3⟩; go_simp; try with_reducible rfl
    rotate_left
    ·simp only [Act.put, sA, sB, sC]; rfl
    refine pure_ (i := 10) (N := some 159) (v := ?_) (a' := ?_) z29 rfl rfl (by kernel_rfl) (fun _ _ _ h => h) (Or.inl ⟨by rfl, ?_⟩) ?_ ?_
    rotate_left
    ·intro w'; go_simp; try with_reducible rfl
    rotate_left
    ·simp only [Act.put, sA, sB, sC]; rfl
    refine take_ (i := 11) (N := some 160) (v := ?_) (a' := ?_) z30 rfl rfl (by kernel_rfl) (fun _ _ _ h => h) (Or.inl ⟨by rfl, ?_⟩) hHeld ?_ ?_
    rotate_left
    ·rintro w' ⟨s0, s1, s2, s3⟩; go_simp; try with_reducible rfl
    rotate_left
    ·simp only [Act.put, sA, sB, sC]; rfl
    refine pure_ (i := 12) (N := some 23) (v := ?_) (a' := ?_) z31 rfl rfl (by kernel_rfl) (fun _ _ _ h => h) (Or.inl ⟨by rfl, ?_⟩) ?_ ?_
    rotate_left
    ·intro w'; go_simp; try with_reducible rfl
    rotate_left
    ·simp only [Act.put, sA, sB, sC]; rfl
    refine pure_ (i := 13) (N := some 24) (v := ?_) (a' := ?_) z32 rfl rfl (by kernel_rfl) (fun _ _ _ h => h) (Or.inl ⟨by rfl, ?_⟩) ?_ ?_
    rotate_left
    ·intro w'; go_simp; try with_reducible rfl
    rotate_left
    ·simp only [Act.put, sA, sB, sC]; rfl
    refine done_ (by kernel_rfl) ?_
    go_wp2_with fail
    go_loopw [23, 24] (fun x y wx => ∃ p r n : Nat, x = .int .u64 p ∧ y = .int .u64 r ∧ p ≠ 0 ∧ p < WB ∧ r < WB ∧ Nat.gcd p r = Nat.gcd a b ∧ wx = wo.drewN n) (fun _ y _ => (intOf y).toNat)
    case atStart => exact ⟨c, d, 1, rfl, rfl, hc0, hcW, hdW, hG, rfl⟩
    case round =>
     obtain ⟨p, r, n, rfl, rfl, hp0, hpW, hrW, hG', hwx⟩ := hrel
     by_cases hr0 : r = 0
     ·subst hr0
      rw [Nat.gcd_zero_right] at hG'
      have hCx : Blk (wo.drewN n) ga Ca := hCa
      have hX7 := hX6.out.drewN n
      have c1d : (wo.drewN n).cell? ⟨g1, 1, none⟩ = some (.slice (some ⟨ga, 0, none⟩) 1 Ca.length) := c1
      have kx : Keeps (fun _ => False) w (wo.drewN n) := (hP.keep).drewN n
      rw [← hwx] at hCx hX7 c1d kx
      clear hwx
      have hfa := hCx.frozen 0
      have hca := hCx.cell 0 (by omega)
      have hX7 := hX7.word (p := p) hga hCx hwa (by omega) hla' hp0 hpW
      have k7 := kx.word hga (.int .u64 (p : Int))
      have hz7 := hz.kept k7 (fun h => h) (fun _ _ h => h)
      have cx7 := k7.cellS hx.neg (fun h => h)
      have cxr := kx.cellS hx.neg (fun h => h)
      have hne1 : gx ≠ ga := by have := hx.known.lt; omega
      have hne2 : ga ≠ gx := hne1.symm
      have hge : w.heap.size ≤ g1 := hP.ge.1
      have hS := intSet_any (wr.setCell ⟨ga, 0, none⟩ (.int .u64 (p : Int))) bz w.heap.size gz 0 g1 0 nz p sz false zv _ hz7 hX7 (by have := hz.known.lt; simp only [ne_eq, Addr.mk.injEq, not_and]; intro e; omega) (Nat.le_trans (by omega) k7.size) (by rw [digs_small WB_one hp0 hpW]; simp)
      have hS := Lib.hid hS
      have hfin := Lib.hid (fun (w9 : World) (v' : Value) (h9 : IntOut (wr.setCell ⟨ga, 0, none⟩ (.int .u64 (p : Int))) w9 bz gz 0 zv false v' p) => h9.after k7 hz.known.lt)
      clear hX7 hz7 kx k7
      have hGH := Lib.hid hG'
      clear hG'
      go_wp2_with fail
      refine hS.out.mono ?_
      rintro e w9 ⟨v', rfl, h9⟩
      have h9 := Lib.hid (hfin.out w9 v' h9)
      go_wp2_with fail
      go_ret
      refine ⟨v', rfl, ?_⟩
      rw [← hGH.out]
      exact h9.out
     ·have t1 : ((r : Int) == 0) = false := by simp; omega
      have t2 : ¬ (r : Int) = 0 := by omega
      have hml := Nat.mod_lt p (show r > 0 by omega)
      have e1 : Int.tmod (p : Int) (r : Int) = ((p % r : Nat) : Int) := rfl
      have hg2 : Nat.gcd r (p % r) = Nat.gcd a b := by rw [← hG', Nat.gcd_comm p r, Nat.gcd_rec r p, Nat.gcd_comm]
      have hwx := Lib.hid hwx
      go_wp2_with fail
      go_region
      all_goals go_wp2_with fail
      all_goals go_roundw
      case rel => exact ⟨r, p % r, n + 1, rfl, by first | rfl | simp, hr0, hrW, by omega, hg2, by first | rfl | (rw [hwx.out]; rfl)⟩
      case measure => simp [intOf]; omega
   ·have hc2 : (1 : Int) < (digs WB c).length := by
     have : ¬ (digs WB c).length ≤ 1 := fun h => hcW (by have := (digs_length_le WB_one).1 h; rwa [Nat.pow_one] at this)
     omega
    obtain ⟨n1, n2, n3, n4, n5, n6⟩ := hP.ne
    obtain ⟨ge1, ge2, ge3, ge4⟩ := hP.ge
    have hE := Lib.hid (euclid_any wo w.heap.size g1 g2 gq gr c d 0 0 false false _ _ _ _ hP.A hP.B hP.q hP.r (fun k h => by simp [Value.ownBlock] at h) n6 hP.keep.size (by omega) hd0 hdW)
    go_wp2_with fail
    refine hE.out.mono ?_
    rintro e w5 ⟨rfl, q5, r5, s1, s2, hQ⟩
    have kQ := hQ.keep
    have hB5 := hP.B.kept (T := fun k => k = gq ∨ k = gr ∨ (Value.slice none 0 0).ownBlock = some k ∨ (Value.slice none 0 0).ownBlock = some k) kQ (fun h => by simp [Value.ownBlock] at h; omega) (fun k hk h => by
     have a1 := NatRow.apart hP.B.nat hP.q.neg
     have a2 := NatRow.apart hP.B.nat hP.r.neg
     rcases h with h | h | h | h
     ·exact a1 (by rw [hk, h])
     ·exact a2 (by rw [hk, h])
     ·simp [Value.ownBlock] at h
     ·simp [Value.ownBlock] at h)
    have hR5 := hQ.rem
    have kW5 : Keeps (fun _ => False) w w5 := hP.keep.trans kQ (fun k hk h => by
     rcases h with h | h | h | h
     ·omega
     ·omega
     ·simp [Value.ownBlock] at h
     ·simp [Value.ownBlock] at h)
    have hml := Nat.mod_lt c (show d > 0 by omega)
    have hG5 : Nat.gcd d (c % d) = Nat.gcd a b := by rw [← hG, Nat.gcd_comm c d, Nat.gcd_rec d c, Nat.gcd_comm]
    clear hQ kQ
    generalize hm : c % d = m at *
    obtain ⟨pr, kr, rfl⟩ := NatRow.form hR5.nat
    have cA5 := hB5.abs
    have cB5 := hR5.abs
    rw [hd1] at cA5
    rw [Nat.zero_add] at cA5 cB5
    have cx5 := kW5.cellS hx.neg (fun h => h)
    by_cases hm0 : m = 0
    ·have hm1 : (digs WB m).length = 0 := by rw [hm0, digs_zero]; rfl
     rw [hm1] at cB5
     rw [hm0, Nat.gcd_zero_right] at hG5
     have hz5 := hz.kept kW5 (fun h => h) (fun _ _ h => h)
     have hS := Lib.hid (intSet_any w5 bz w.heap.size gz 0 g2 0 nz d sz false zv _ hz5 hB5 (by have := hz.known.lt; simp only [ne_eq, Addr.mk.injEq, not_and]; intro e; omega) (Nat.le_trans (by omega) kW5.size) (by rw [hd1]; omega))
     have hfin := Lib.hid (fun (w9 : World) (v' : Value) (h9 : IntOut w5 w9 bz gz 0 zv false v' d) => h9.after kW5 hz.known.lt)
     have hGH := Lib.hid hG5
     clear hG5 hz5
     go_wp2_with fail
     refine hS.out.mono ?_
     rintro e w9 ⟨v', rfl, h9⟩
     have h9 := Lib.hid (hfin.out w9 v' h9)
     go_wp2_with fail
     go_ret
     refine ⟨v', rfl, ?_⟩
     rw [← hGH.out]
     exact h9.out
    ·have hm1 : (digs WB m).length = 1 := by rw [digs_small WB_one hm0 (by omega)]; rfl
     rw [hm1] at cB5
     have hmW : m < WB := by omega
     go_wp2_with fail
     have hrX := hB5.nat
     have hrY := hR5.nat
     unfold NatAt at hrX hrY
     rw [digs_small WB_one hd0 hdW] at hrX
     rw [digs_small WB_one hm0 hmW] at hrY
     have c1 := hB5.abs
     have c2 := hR5.abs
     rw [Nat.zero_add] at c1 c2
     rw [digs_small WB_one hd0 hdW] at c1
     rw [digs_small WB_one hm0 hmW] at c2
     obtain ⟨ga, Ca, hva, hga, hCa, hwa, hta, h0a, hla', haC⟩ := hrX.mk' (by simp)
     obtain ⟨gb, Cb, hvb, hgb, hCb, hwb, htb, h0b, hlb', hbC⟩ := hrY.mk' (by simp)
     have c3 := hCa.row (xs := [d]) hta (by simpa using haC) 0 (by simp)
     have c4 := hCb.row (xs := [m]) htb (by simpa using hbC) 0 (by simp)
     simp only [List.length_cons, List.length_nil, Nat.zero_add, List.getElem_cons_zero] at hva hvb c1 c2 c3 c4 haC hbC
     rw [hva] at c1
     rw [hvb] at c2
     have hX6 := hB5
     rw [digs_small WB_one hd0 hdW] at hX6
     simp only [List.length_cons, List.length_nil, Nat.zero_add] at hX6
     rw [hva] at hX6
     have hX6 := Lib.hid hX6
     go_wp2_with fail
     refine start_ (n := 14) (S := fun W => W.cell? ⟨g2, 1, none⟩ = some (.slice (some ⟨ga, 0, none⟩) 1 Ca.length) ∧ W.cell? ⟨ga, 0, none⟩ = some (.int .u64 (d : Int)) ∧ W.cell? ⟨gr, 1, none⟩ = some (.slice (some ⟨gb, 0, none⟩) 1 Cb.length) ∧ W.cell? ⟨gb, 0, none⟩ = some (.int .u64 (m : Int))) (ds := []) z18 (by kernel_rfl) rfl rfl ⟨c1, c3, c2, c4⟩ (fun hHeld => ?_)
     refine pure_ (i := 0) (N := some 149) (v := ?_) (a' := ?_) z19 rfl rfl (by kernel_rfl) (fun _ _ _ h => h) (Or.inl ⟨by rfl, ?_⟩) ?_ ?_
     rotate_left
     ·intro w'; go_simp; try with_reducible rfl
     rotate_left
     ·simp only [Act.put, sA, sB, sC]; rfl
     refine pure_ (i := 1) (N := some 150) (v := ?_) (a' := ?_) z20 rfl rfl (by kernel_rfl) (fun _ _ _ h => h) (Or.inl ⟨by rfl, ?_⟩) ?_ ?_
     rotate_left
     ·intro w'; go_simp; try with_reducible rfl
     rotate_left
     ·simp only [Act.put, sA, sB, sC]; rfl
     refine pure_ (i := 2) (N := some 151) (v := ?_) (a' := ?_) z21 rfl rfl (by kernel_rfl) (fun _ _ _ h => h) (Or.inl ⟨by rfl, ?_⟩) ?_ ?_
     rotate_left
     ·intro w'; go_simp; try with_reducible rfl
     rotate_left
     ·simp only [Act.put, sA, sB, sC]; rfl
     refine take_ (i := 3) (N := some 152) (v := ?_) (a' := ?_) z22 rfl rfl (by kernel_rfl) (fun _ _ _ h => h) (Or.inl ⟨by rfl, ?_⟩) hHeld ?_ ?_
     rotate_left
     ·rintro w' ⟨s0, s1, s2, s3⟩; go_simp; try with_reducible rfl
     rotate_left
     ·simp only [Act.put, sA, sB, sC]; rfl
     refine pure_ (i := 4) (N := some 153) (v := ?_) (a' := ?_) z23 rfl rfl (by kernel_rfl) (fun _ _ _ h => h) (Or.inl ⟨by rfl, ?_⟩) ?_ ?_
     rotate_left
     ·intro w'; go_simp; try with_reducible rfl
     rotate_left
     ·simp only [Act.put, sA, sB, sC]; rfl
     refine take_ (i := 5) (N := some 154) (v := ?_) (a' := ?_) z24 rfl rfl (by kernel_rfl) (fun _ _ _ h => h) (Or.inl ⟨by rfl, ?_⟩) hHeld ?_ ?_
     rotate_left
     ·rintro w' ⟨s0, s1, s2, s3⟩; go_simp; try with_reducible rfl
     rotate_left
     ·simp only [Act.put, sA, sB, sC]; rfl
     refine pure_ (i := 6) (N := some 155) (v := ?_) (a' := ?_) z25 rfl rfl (by kernel_rfl) (fun _ _ _ h => h) (Or.inl ⟨by rfl, ?_⟩) ?_ ?_
     rotate_left
     ·intro w'; go_simp; try with_reducible rfl
     rotate_left
     ·simp only [Act.put, sA, sB, sC]; rfl
     refine pure_ (i := 7) (N := some 156) (v := ?_) (a' := ?_) z26 rfl rfl (by kernel_rfl) (fun _ _ _ h => h) (Or.inl ⟨by rfl, ?_⟩) ?_ ?_
     rotate_left
     ·intro w'; go_simp; try with_reducible rfl
     rotate_left
     ·simp only [Act.put, sA, sB, sC]; rfl
     refine pure_ (i := 8) (N := some 157) (v := ?_) (a' := ?_) z27 rfl rfl (by kernel_rfl) (fun _ _ _ h => h) (Or.inl ⟨by rfl, ?_⟩) ?_ ?_
     rotate_left
     ·intro w'; go_simp; try with_reducible rfl
     rotate_left
     ·simp only [Act.put, sA, sB, sC]; rfl
     refine take_ (i := 9) (N := some 158) (v := ?_) (a' := ?_) z28 rfl rfl (by kernel_rfl) (fun _ _ _ h => h) (Or.inl ⟨by rfl, ?_⟩) hHeld ?_ ?_
     rotate_left
     ·rintro w' ⟨s0, s1, s2, s3⟩; go_simp; try with_reducible rfl
     rotate_left
     ·simp only [Act.put, sA, sB, sC]; rfl
     refine pure_ (i := 10) (N := some 159) (v := ?_) (a' := ?_) z29 rfl rfl (by kernel_rfl) (fun _ _ _ h => h) (Or.inl ⟨by rfl, ?_⟩) ?_ ?_
     rotate_left
     ·intro w'; go_simp; try with_reducible rfl
     rotate_left
     ·simp only [Act.put, sA, sB, sC]; rfl
     refine take_ (i := 11) (N := some 160) (v := ?_) (a' := ?_) z30 rfl rfl (by kernel_rfl) (fun _ _ _ h => h) (Or.inl ⟨by rfl, ?_⟩) hHeld ?_ ?_
     rotate_left
     ·rintro w' ⟨s0, s1, s2, s3⟩; go_simp; try with_reducible rfl
     rotate_left
     ·simp only [Act.put, sA, sB, sC]; rfl
     refine pure_ (i := 12) (N := some 23) (v := ?_) (a' := ?_) z31 rfl rfl (by kernel_rfl) (fun _ _ _ h => h) (Or.inl ⟨by rfl, ?_⟩) ?_ ?_
     rotate_left
     ·intro w'; go_simp; try with_reducible rfl
     rotate_left
     ·simp only [Act.put, sA, sB, sC]; rfl
     refine pure_ (i := 13) (N := some 24) (v := ?_) (a' := ?_) z32 rfl rfl (by kernel_rfl) (fun _ _ _ h => h) (Or.inl ⟨by rfl, ?_⟩) ?_ ?_
     rotate_left
     ·intro w'; go_simp; try with_reducible rfl
     rotate_left
     ·simp only [Act.put, sA, sB, sC]; rfl
     refine done_ (by kernel_rfl) ?_
     go_wp2_with fail
     go_loopw [23, 24] (fun x y wx => ∃ p r n : Nat, x = .int .u64 p ∧ y = .int .u64 r ∧ p ≠ 0 ∧ p < WB ∧ r < WB ∧ Nat.gcd p r = Nat.gcd a b ∧ wx = w5.drewN n) (fun _ y _ => (intOf y).toNat)
     case atStart => exact ⟨d, m, 1, rfl, rfl, hd0, hdW, hmW, hG5, rfl⟩
     case round =>
      obtain ⟨p, r, n, rfl, rfl, hp0, hpW, hrW, hG', hwx⟩ := hrel
      by_cases hr0 : r = 0
      ·subst hr0
       rw [Nat.gcd_zero_right] at hG'
       have hCx : Blk (w5.drewN n) ga Ca := hCa
       have hX7 := hX6.out.drewN n
       have c1d : (w5.drewN n).cell? ⟨g2, 1, none⟩ = some (.slice (some ⟨ga, 0, none⟩) 1 Ca.length) := c1
       have kx : Keeps (fun _ => False) w (w5.drewN n) := (kW5).drewN n
       rw [← hwx] at hCx hX7 c1d kx
       clear hwx
       have hfa := hCx.frozen 0
       have hca := hCx.cell 0 (by omega)
       have hX7 := hX7.word (p := p) hga hCx hwa (by omega) hla' hp0 hpW
       have k7 := kx.word hga (.int .u64 (p : Int))
       have hz7 := hz.kept k7 (fun h => h) (fun _ _ h => h)
       have cx7 := k7.cellS hx.neg (fun h => h)
       have cxr := kx.cellS hx.neg (fun h => h)
       have hne1 : gx ≠ ga := by have := hx.known.lt; omega
       have hne2 : ga ≠ gx := hne1.symm
       have hge : w.heap.size ≤ g2 := ge2
       have hS := intSet_any (wr.setCell ⟨ga, 0, none⟩ (.int .u64 (p : Int))) bz w.heap.size gz 0 g2 0 nz p sz false zv _ hz7 hX7 (by have := hz.known.lt; simp only [ne_eq, Addr.mk.injEq, not_and]; intro e; omega) (Nat.le_trans (by omega) k7.size) (by rw [digs_small WB_one hp0 hpW]; simp)
       have hS := Lib.hid hS
       have hfin := Lib.hid (fun (w9 : World) (v' : Value) (h9 : IntOut (wr.setCell ⟨ga, 0, none⟩ (.int .u64 (p : Int))) w9 bz gz 0 zv false v' p) => h9.after k7 hz.known.lt)
       clear hX7 hz7 kx k7
       have hGH := Lib.hid hG'
       clear hG'
       go_wp2_with fail
       refine hS.out.mono ?_
       rintro e w9 ⟨v', rfl, h9⟩
       have h9 := Lib.hid (hfin.out w9 v' h9)
       go_wp2_with fail
       go_ret
       refine ⟨v', rfl, ?_⟩
       rw [← hGH.out]
       exact h9.out
      ·have t1 : ((r : Int) == 0) = false := by simp; omega
       have t2 : ¬ (r : Int) = 0 := by omega
       have hml := Nat.mod_lt p (show r > 0 by omega)
       have e1 : Int.tmod (p : Int) (r : Int) = ((p % r : Nat) : Int) := rfl
       have hg2 : Nat.gcd r (p % r) = Nat.gcd a b := by rw [← hG', Nat.gcd_comm p r, Nat.gcd_rec r p, Nat.gcd_comm]
       have hwx := Lib.hid hwx
       go_wp2_with fail
       go_region
       all_goals go_wp2_with fail
       all_goals go_roundw
       case rel => exact ⟨r, p % r, n + 1, rfl, by first | rfl | simp, hr0, hrW, by omega, hg2, by first | rfl | (rw [hwx.out]; rfl)⟩
       case measure => simp [intOf]; omega
end Go.Proofs.YthocmhkafgpgbaaGreatDoor
