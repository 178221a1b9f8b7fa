/- Integers in memory: a quotient and its rest. -/
import Derived.Test.YtgamldefngehlaaGreatDoorM10
import Derived.Test.YtgamldefngehlaaGreatDoorM11
set_option linter.unusedVariables false
set_option linter.unusedSimpArgs false
namespace Go.Proofs.YtgamldefngehlaaGreatDoor
open Go.RowKit
open Go.Proofs.YtgamldefngehlaaGreatDoorW.PrintLast
structure QROut (w w' : World) (base gz oz gr or_ : Nat) (zv rv q r : Value) (s s' : Bool) (a b : Nat) : Prop where
 quo : IntAt w' base gz oz s q (a / b)
 rem : IntAt w' base gr or_ s' r (a % b)
 keep : Keeps (fun k => k = gz ∨ k = gr ∨ zv.ownBlock = some k ∨ rv.ownBlock = some k) w w'
 ownq : ∀ k, q.ownBlock = some k → zv.ownBlock = some k ∨ w.heap.size ≤ k
 ownr : ∀ k, r.ownBlock = some k → rv.ownBlock = some k ∨ w.heap.size ≤ k
 apart : ∀ k, q.ownBlock = some k → r.ownBlock ≠ some k
 rest : ∀ i, (gz = gr → i ≠ oz ∧ i ≠ oz + 1) → i ≠ or_ → i ≠ or_ + 1 → w'.cell? ⟨gr, i, none⟩ = w.cell? ⟨gr, i, none⟩
theorem DivOut.undrewN {w w1 : World} {n base : Nat} {zv z2 q r : Value} {a b : Nat} (h : DivOut (w.drewN n) w1 base zv z2 q r a b) : DivOut w w1 base zv z2 q r a b :=
 ⟨h.quo, h.rem, ⟨h.keep.os, h.keep.tape, h.keep.output, h.keep.size, h.keep.blk⟩, h.ownq, h.ownr, h.apart⟩
structure MidQR (w1 : World) (gz oz gr or_ gx ox gy oy : Nat) (zv rv : Value) (sz sr sx sy : Bool) : Prop where
 f1 : w1.frozen? ⟨gz, oz + 1, none⟩ = false
 f2 : w1.frozen? ⟨gr, or_ + 1, none⟩ = false
 c1 : w1.cell? ⟨gz, oz + 1, none⟩ = some zv
 c2 : w1.cell? ⟨gr, or_ + 1, none⟩ = some rv
 f3 : w1.frozen? ⟨gz, oz, none⟩ = false
 f4 : w1.frozen? ⟨gr, or_, none⟩ = false
 c3 : w1.cell? ⟨gz, oz, none⟩ = some (.bool sz)
 c4 : w1.cell? ⟨gr, or_, none⟩ = some (.bool sr)
 c5 : w1.cell? ⟨gx, ox, none⟩ = some (.bool sx)
 c6 : w1.cell? ⟨gy, oy, none⟩ = some (.bool sy)
theorem midQR {w w1 : World} {base bx by_ gz oz gx ox gy oy gr or_ nz nr a b : Nat} {sz sx sy sr : Bool} {zv xv yv rv q r : Value} (hz : IntAt w base gz oz sz zv nz) (hx : IntAt w bx gx ox sx xv a) (hy : IntAt w by_ gy oy sy yv b) (hr : IntAt w base gr or_ sr rv nr) (ho : DivOut w w1 base zv rv q r a b) :
  MidQR w1 gz oz gr or_ gx ox gy oy zv rv sz sr sx sy := by
 have hk := ho.keep
 have T : ∀ {g o : Nat} {s : Bool}, w.cell? ⟨g, o, none⟩ = some (.bool s) → ¬ (zv.ownBlock = some g ∨ rv.ownBlock = some g) := fun h e => e.elim (NatRow.apart hz.nat h) (NatRow.apart hr.nat h)
 have kz := hz.known.keeps (T := fun k => zv.ownBlock = some k ∨ rv.ownBlock = some k) hk (T hz.neg)
 have kr := hr.known.keeps (T := fun k => zv.ownBlock = some k ∨ rv.ownBlock = some k) hk (T hr.neg)
 exact ⟨kz.frozen _, kr.frozen _, hk.cellS hz.abs (T hz.neg), hk.cellS hr.abs (T hr.neg), kz.frozen _, kr.frozen _, hk.cellS hz.neg (T hz.neg), hk.cellS hr.neg (T hr.neg), hk.cellS hx.neg (T hx.neg), hk.cellS hy.neg (T hy.neg)⟩
def Far (gz oz gr or_ : Nat) : Prop := gz ≠ gr ∨ oz + 2 ≤ or_ ∨ or_ + 2 ≤ oz
theorem Far.ne {gz oz gr or_ : Nat} (h : Far gz oz gr or_) {i j : Nat} (hi : i = oz ∨ i = oz + 1) (hj : j = or_ ∨ j = or_ + 1) : (⟨gz, i, none⟩ : Addr) ≠ ⟨gr, j, none⟩ := fun e => by
 injection e with e1 e2
 rcases h with h | h | h <;> omega
theorem Far.cell {w : World} {gz oz gr or_ : Nat} (h : Far gz oz gr or_) {i j : Nat} (hi : i = oz ∨ i = oz + 1) (hj : j = or_ ∨ j = or_ + 1) {u : Value} (hc : w.cell? ⟨gr, j, none⟩ = some u) (v : Value) : (w.setCell ⟨gz, i, none⟩ v).cell? ⟨gr, j, none⟩ = some u :=
 (cell_set_ne (h.ne hi hj).symm v).trans hc
structure MidQR2 (W : World) (gz oz gr or_ gx ox gy oy : Nat) (q r : Value) (sz sr sx sy : Bool) : Prop where
 c1 : W.cell? ⟨gz, oz + 1, none⟩ = some q
 c2 : W.cell? ⟨gr, or_ + 1, none⟩ = some r
 c3 : W.cell? ⟨gx, ox, none⟩ = some (.bool sx)
 c4 : W.cell? ⟨gy, oy, none⟩ = some (.bool sy)
 c5 : W.cell? ⟨gz, oz, none⟩ = some (.bool sz)
 c6 : W.cell? ⟨gr, or_, none⟩ = some (.bool sr)
 f5 : W.frozen? ⟨gz, oz, none⟩ = false
 f6 : W.frozen? ⟨gr, or_, none⟩ = false
theorem midQR2 {w1 : World} {gz oz gr or_ gx ox gy oy n m c c' : Nat} {p p' : Option Addr} {q r : Value} {sz sr sx sy : Bool} (hgz : Far gz oz gr or_) (hn : Known w1 gz) (hn' : Known w1 gr) (h : MidQR w1 gz oz gr or_ gx ox gy oy (.slice p n c) (.slice p' m c') sz sr sx sy) :
  MidQR2 ((w1.setCell ⟨gz, oz + 1, none⟩ q).setCell ⟨gr, or_ + 1, none⟩ r) gz oz gr or_ gx ox gy oy q r sz sr sx sy := by
 have ne : ∀ {g o : Nat} {s : Bool}, w1.cell? ⟨g, o, none⟩ = some (.bool s) → (⟨g, o, none⟩ : Addr) ≠ ⟨gz, oz + 1, none⟩ ∧ (⟨g, o, none⟩ : Addr) ≠ ⟨gr, or_ + 1, none⟩ := fun hc =>
  ⟨fun e => by rw [e, h.c1] at hc; simp at hc, fun e => by rw [e, h.c2] at hc; simp at hc⟩
 have two : ∀ {g o : Nat} {s : Bool}, w1.cell? ⟨g, o, none⟩ = some (.bool s) → ((w1.setCell ⟨gz, oz + 1, none⟩ q).setCell ⟨gr, or_ + 1, none⟩ r).cell? ⟨g, o, none⟩ = some (.bool s) := fun hc =>
  (cell_set_ne (ne hc).2 _).trans ((cell_set_ne (ne hc).1 _).trans hc)
 refine ⟨?_, ?_, two h.c5, two h.c6, two h.c3, two h.c4, ((hn.setCell _ _ _).setCell _ _ _).frozen _, ((hn'.setCell _ _ _).setCell _ _ _).frozen _⟩
 ·rw [cell_set_ne (hgz.ne (.inr rfl) (.inr rfl))]; exact cell_set_same h.c1 _
 ·exact cell_set_same (hgz.cell (.inr rfl) (.inr rfl) h.c2 _) _
theorem QROut.mk' {w w1 : World} {base bx by_ gz oz gx ox gy oy gr or_ nz nr a b : Nat} {sz sx sy sr : Bool} {zv xv yv rv q r : Value} (hz : IntAt w base gz oz sz zv nz) (hx : IntAt w bx gx ox sx xv a) (hy : IntAt w by_ gy oy sy yv b) (hr : IntAt w base gr or_ sr rv nr) (hgz : Far gz oz gr or_) (ho : DivOut w w1 base zv rv q r a b) (s s' : Bool) :
  MidQR2 ((w1.setCell ⟨gz, oz + 1, none⟩ q).setCell ⟨gr, or_ + 1, none⟩ r) gz oz gr or_ gx ox gy oy q r sz sr sx sy ∧
  QROut w ((((w1.setCell ⟨gz, oz + 1, none⟩ q).setCell ⟨gr, or_ + 1, none⟩ r).setCell ⟨gz, oz, none⟩ (.bool s)).setCell ⟨gr, or_, none⟩ (.bool s')) base gz oz gr or_ zv rv q r s s' a b := by
 have hm := midQR hz hx hy hr ho
 have T : ∀ {g o : Nat} {s : Bool}, w.cell? ⟨g, o, none⟩ = some (.bool s) → ¬ (zv.ownBlock = some g ∨ rv.ownBlock = some g) := fun h e => e.elim (NatRow.apart hz.nat h) (NatRow.apart hr.nat h)
 have kz := hz.known.keeps (T := fun k => zv.ownBlock = some k ∨ rv.ownBlock = some k) ho.keep (T hz.neg)
 have kr := hr.known.keeps (T := fun k => zv.ownBlock = some k ∨ rv.ownBlock = some k) ho.keep (T hr.neg)
 obtain ⟨pz, cz, rfl⟩ := NatRow.form hz.nat
 obtain ⟨pr, cr, rfl⟩ := NatRow.form hr.nat
 have h2 := midQR2 (q := q) (r := r) hgz kz kr hm
 refine ⟨h2, ?_⟩
 have k3 : Keeps (fun k => k = gz ∨ k = gr) w1 ((((w1.setCell ⟨gz, oz + 1, none⟩ q).setCell ⟨gr, or_ + 1, none⟩ r).setCell ⟨gz, oz, none⟩ (.bool s)).setCell ⟨gr, or_, none⟩ (.bool s')) :=
  ((((Keeps.refl (fun k => k = gz ∨ k = gr) w1).setCell _ _ (fun _ => .inl rfl)).setCell _ _ (fun _ => .inr rfl)).setCell _ _ (fun _ => .inl rfl)).setCell _ _ (fun _ => .inr rfl)
 have aq : ∀ k, q.ownBlock = some k → ¬ (k = gz ∨ k = gr) := fun k hk e => by
  rcases e with rfl | rfl
  ·exact NatRow.apart ho.quo hm.c3 hk
  ·exact NatRow.apart ho.quo hm.c4 hk
 have ar : ∀ k, r.ownBlock = some k → ¬ (k = gz ∨ k = gr) := fun k hk e => by
  rcases e with rfl | rfl
  ·exact NatRow.apart ho.rem hm.c3 hk
  ·exact NatRow.apart ho.rem hm.c4 hk
 have e5 := cell_set_same h2.c5 (.bool s)
 refine ⟨⟨?_, ?_, ?_, NatRow.kept ho.quo k3 aq⟩, ⟨?_, ?_, ?_, NatRow.kept ho.rem k3 ar⟩, ?_, ho.ownq, ho.ownr, ho.apart, fun i h0 h1 h3 => ?_⟩
 ·exact (((kz.setCell _ _ _).setCell _ _ _).setCell _ _ _).setCell _ _ _
 ·rw [cell_set_ne (hgz.ne (.inl rfl) (.inl rfl))]; exact e5
 ·rw [cell_set_ne (hgz.ne (.inr rfl) (.inl rfl)), cell_set_ne (by simp)]; exact h2.c1
 ·exact (((kr.setCell _ _ _).setCell _ _ _).setCell _ _ _).setCell _ _ _
 ·exact cell_set_same (hgz.cell (.inl rfl) (.inl rfl) h2.c6 _) _
 ·rw [cell_set_ne (by simp), cell_set_ne (hgz.ne (.inl rfl) (.inr rfl)).symm]; exact h2.c2
 ·exact ((((ho.keep.mono (T' := fun k => k = gz ∨ k = gr ∨ _ ∨ _) (fun _ _ h => .inr (.inr h))).setCell _ _ (fun _ => .inl rfl)).setCell _ _ (fun _ => .inr (.inl rfl))).setCell _ _ (fun _ => .inl rfl)).setCell _ _ (fun _ => .inr (.inl rfl))
 ·rw [cell_set_ne (by simp [h1]), cell_set_ne (fun e => by injection e with e1 e2; exact (h0 e1.symm).1 e2), cell_set_ne (by simp [h3]), cell_set_ne (fun e => by injection e with e1 e2; exact (h0 e1.symm).2 e2)]
  exact ho.keep.cell (a := ⟨gr, i, none⟩) hr.known.lt (T hr.neg)
theorem QROut.drewN {w w1 : World} {base gz oz gr or_ a b : Nat} {zv rv q r : Value} {s s' : Bool} (n : Nat) (h : QROut w w1 base gz oz gr or_ zv rv q r s s' a b) : QROut w (w1.drewN n) base gz oz gr or_ zv rv q r s s' a b :=
 ⟨⟨h.quo.known, h.quo.neg, h.quo.abs, h.quo.nat⟩, ⟨h.rem.known, h.rem.neg, h.rem.abs, h.rem.nat⟩, h.keep.drewN n, h.ownq, h.ownr, h.apart, h.rest⟩
set_option maxRecDepth 100000 in
set_option maxHeartbeats 1000000 in
theorem intQuoRem_of (w : World) (base bx by_ gz oz gx ox gy oy gr or_ nz nr a b : Nat) (sz sx sy sr : Bool) (zv xv yv rv : Value) (hz : IntAt w base gz oz sz zv nz) (hx : IntAt w bx gx ox sx xv a) (hy : IntAt w by_ gy oy sy yv b) (hr : IntAt w base gr or_ sr rv nr)
  (hap : ∀ k, zv.ownBlock = some k → rv.ownBlock ≠ some k) (hgz : Far gz oz gr or_) (hB : base ≤ w.heap.size) (hD : ∀ W, Keeps (fun _ => False) w W → Calls Tryz.prog 210 #[zv, .pointer none, rv, xv, yv] W fun e w' => ∃ q r, e = .returned (.tuple #[q, r]) ∧ DivOut W w' base zv rv q r a b) :
  Calls Tryz.prog 226 #[.pointer (some ⟨gz, oz, none⟩), .pointer (some ⟨gx, ox, none⟩), .pointer (some ⟨gy, oy, none⟩), .pointer (some ⟨gr, or_, none⟩)] w fun e w' => ∃ q r, e = .returned (.tuple #[.pointer (some ⟨gz, oz, none⟩), .pointer (some ⟨gr, or_, none⟩)]) ∧ QROut w w' base gz oz gr or_ zv rv q r (decide (a / b ≠ 0) && (sx != sy)) (decide (a % b ≠ 0) && sx) a b := by
 have hS := hD
 have hS := Lib.hid hS
 have hM := Lib.hid (fun (w1 : World) (q r : Value) (ho : DivOut w.drew w1 base zv rv q r a b) => And.intro (midQR hz hx hy hr (ho.undrewN (n := 1))) (QROut.mk' hz hx hy hr hgz (ho.undrewN (n := 1)) (decide (a / b ≠ 0) && (sx != sy)) (decide (a % b ≠ 0) && sx)))
 have c1 := hz.abs
 have c2 := hx.abs
 have c3 := hy.abs
 have c4 := hr.abs
 go_enter Tryz.func226, Tryz.ntmps226
 go_wp2_with fail
 refine start_ (n := 28) (S := fun W => W.cell? ⟨gz, oz + 1, none⟩ = some zv ∧ W.cell? ⟨gr, or_ + 1, none⟩ = some rv ∧ W.cell? ⟨gx, ox + 1, none⟩ = some xv ∧ W.cell? ⟨gy, oy + 1, none⟩ = some yv) (ds := [18, 24, 27]) z50 (by kernel_rfl) rfl rfl ⟨c1, c4, c2, c3⟩ (fun hHeld => ?_)
 refine stq 0 11 z51 ?_
 refine stq 1 12 z52 ?_
 refine stq 2 13 z53 ?_
 refine stq 3 14 z54 ?_
 refine stq 4 15 z55 ?_
 refine take_ (i := 5) (N := some 16) (v := ?_) (a' := ?_) z56 rfl rfl (by kernel_rfl) (fun _ _ _ h => h) (Or.inl ⟨by rfl, ?_⟩) hHeld ?_ ?_
 rotate_left
 ·rintro w' ⟨s0, s1, s2, s3⟩; go_simp; try with_reducible rfl
 rotate_left
 ·simp only [Act.put, sA, sB, sC]; rfl
 refine stq 6 17 z57 ?_
 refine stq 7 18 z58 ?_
 refine stq 8 19 z59 ?_
 refine take_ (i := 9) (N := some 20) (v := ?_) (a' := ?_) z60 rfl rfl (by kernel_rfl) (fun _ _ _ h => h) (Or.inl ⟨by rfl, ?_⟩) hHeld ?_ ?_
 rotate_left
 ·rintro w' ⟨s0, s1, s2, s3⟩; go_simp; try with_reducible rfl
 rotate_left
 ·simp only [Act.put, sA, sB, sC]; rfl
 refine stq 10 21 z61 ?_
 refine stq 11 22 z62 ?_
 refine stq 12 23 z63 ?_
 refine take_ (i := 13) (N := some 24) (v := ?_) (a' := ?_) z64 rfl rfl (by kernel_rfl) (fun _ _ _ h => h) (Or.inl ⟨by rfl, ?_⟩) hHeld ?_ ?_
 rotate_left
 ·rintro w' ⟨s0, s1, s2, s3⟩; go_simp; try with_reducible rfl
 rotate_left
 ·simp only [Act.put, sA, sB, sC]; rfl
 refine stq 14 25 z65 ?_
 refine stq 15 26 z66 ?_
 refine stq 16 27 z67 ?_
 refine take_ (i := 17) (N := some 28) (v := ?_) (a' := ?_) z68 rfl rfl (by kernel_rfl) (fun _ _ _ h => h) (Or.inl ⟨by rfl, ?_⟩) hHeld ?_ ?_
 rotate_left
 ·rintro w' ⟨s0, s1, s2, s3⟩; go_simp; try with_reducible rfl
 rotate_left
 ·simp only [Act.put, sA, sB, sC]; rfl
 refine last_ (i := 18) (N := some 29) z69 rfl rfl (by kernel_rfl) (by decide) (fun K hK => ?_)
 refine goes_ Tryz.func210 (by kernel_rfl) rfl #[zv, .pointer none, rv, xv, yv] (by rfl) rfl rfl (by first | rfl | simp [Act.eval]) ?_
 refine (hS.out w.drew (Keeps.refl _ w).drew).mono ?_
 rintro e w1 ⟨q, r, rfl, ho⟩
 obtain ⟨pq, kq, rfl⟩ := NatRow.form ho.quo
 obtain ⟨pr, kr, rfl⟩ := NatRow.form ho.rem
 obtain ⟨⟨f1, f2, d1, d2, f3, f4, d3, d4, d5, d6⟩, ⟨g1, g2, g3, g4, g5, g6, g7, g8⟩, hst⟩ := hM.out w1 _ _ ho
 have hst := Lib.hid hst
 clear ho
 have x1 := hgz.cell (.inr rfl) (.inr rfl) d2 (.slice pq (digs WB (a / b)).length kq)
 refine ⟨_, rfl, ?_⟩
 refine hK.out _ _ ?_
 clear hK K
 try clear hHeld
 refine norm_ (a' := ?_) ?_ ?_
 rotate_left
 ·simp only [Act.put, sA, sB, sC]; rfl
 refine stq 19 10 z70 ?_
 refine stq 20 30 z71 ?_
 refine stq 21 31 z72 ?_
 refine stq 22 32 z73 ?_
 refine stq 23 33 z74 ?_
 refine last_ (i := 24) (N := none) z75 rfl rfl (by kernel_rfl) (by decide) (fun K hK => ?_)
 refine skip_ (w1 := ?_) (by rfl) rfl ?_ ?_
 rotate_left
 ·go_simp; try rfl
 refine hK.out _ _ ?_
 clear hK K
 refine stq 25 34 z76 ?_
 refine stq 26 35 z77 ?_
 refine last_ (i := 27) (N := none) z78 rfl rfl (by kernel_rfl) (by decide) (fun K hK => ?_)
 refine skip_ (w1 := ?_) (by rfl) rfl ?_ ?_
 rotate_left
 ·go_simp; try rfl
 refine hK.out _ _ ?_
 clear hK K
 refine done_ (by kernel_rfl) ?_
 go_wp2_with fail
 clear f1 f2 d1 d2 f3 f4 d3 d4 d5 d6 x1
 generalize hW2 : (w1.setCell ⟨gz, oz + 1, none⟩ (.slice pq (digs WB (a / b)).length kq)).setCell ⟨gr, or_ + 1, none⟩ (.slice pr (digs WB (a % b)).length kr) = W2 at *
 have hdq := digs_len_pos WB_one (n := a / b)
 have hdr := digs_len_pos WB_one (n := a % b)
 generalize hqn : a / b = qn at *
 generalize hrn : a % b = rn at *
 by_cases hq0 : qn = 0
 ·by_cases hr0 : rn = 0
  ·have e1 : (decide (qn ≠ 0) && (sx != sy)) = false := by simp [hq0]
   have e2 : (decide (rn ≠ 0) && sx) = false := by simp [hr0]
   have l1 : (digs WB qn).length = 0 := by omega
   rw [l1] at g1 ⊢
   have l2 : (digs WB rn).length = 0 := by omega
   rw [l2] at g2 ⊢
   have x2 := hgz.cell (.inl rfl) (.inl rfl) g6
   refine start_ (n := 37) (S := fun W => W.cell? ⟨gz, oz + 1, none⟩ = some (.slice pq 0 kq) ∧ W.cell? ⟨gr, or_ + 1, none⟩ = some (.slice pr 0 kr) ∧ W.cell? ⟨gx, ox, none⟩ = some (.bool sx) ∧ W.cell? ⟨gy, oy, none⟩ = some (.bool sy)) (ds := [33, 36]) z79 (by kernel_rfl) rfl rfl ⟨g1, g2, g3, g4⟩ (fun hHeld => ?_)
   refine stq 0 36 z80 ?_
   refine stq 1 37 z81 ?_
   refine stq 2 38 z82 ?_
   refine stq 3 39 z83 ?_
   refine stq 4 40 z84 ?_
   refine take_ (i := 5) (N := some 41) (v := ?_) (a' := ?_) z85 rfl rfl (by kernel_rfl) (fun _ _ _ h => h) (Or.inl ⟨by rfl, ?_⟩) hHeld ?_ ?_
   rotate_left
   ·rintro w' ⟨s0, s1, s2, s3⟩; go_simp; try with_reducible rfl
   rotate_left
   ·simp only [Act.put, sA, sB, sC]; rfl
   refine stq 6 42 z86 ?_
   refine stq 7 43 z87 ?_
   refine stq 8 44 z88 ?_
   refine pure_ (i := 9) (N := some 45) (v := undef) (a' := ?_) z89 rfl rfl (by kernel_rfl) (fun _ _ _ h => h) (Or.inr ⟨by rfl, rfl⟩) ?_ ?_
   rotate_left
   ·simp only [Act.put, sA, sB, sC]; rfl
   refine pure_ (i := 10) (N := some 46) (v := undef) (a' := ?_) z90 rfl rfl (by kernel_rfl) (fun _ _ _ h => h) (Or.inr ⟨by rfl, rfl⟩) ?_ ?_
   rotate_left
   ·simp only [Act.put, sA, sB, sC]; rfl
   refine pure_ (i := 11) (N := some 47) (v := undef) (a' := ?_) z91 rfl rfl (by kernel_rfl) (fun _ _ _ h => h) (Or.inr ⟨by rfl, rfl⟩) ?_ ?_
   rotate_left
   ·simp only [Act.put, sA, sB, sC]; rfl
   refine pure_ (i := 12) (N := some 48) (v := undef) (a' := ?_) z92 rfl rfl (by kernel_rfl) (fun _ _ _ h => h) (Or.inr ⟨by rfl, rfl⟩) ?_ ?_
   rotate_left
   ·simp only [Act.put, sA, sB, sC]; rfl
   refine pure_ (i := 13) (N := some 49) (v := undef) (a' := ?_) z93 rfl rfl (by kernel_rfl) (fun _ _ _ h => h) (Or.inr ⟨by rfl, rfl⟩) ?_ ?_
   rotate_left
   ·simp only [Act.put, sA, sB, sC]; rfl
   refine pure_ (i := 14) (N := some 50) (v := undef) (a' := ?_) z94 rfl rfl (by kernel_rfl) (fun _ _ _ h => h) (Or.inr ⟨by rfl, rfl⟩) ?_ ?_
   rotate_left
   ·simp only [Act.put, sA, sB, sC]; rfl
   refine pure_ (i := 15) (N := some 51) (v := undef) (a' := ?_) z95 rfl rfl (by kernel_rfl) (fun _ _ _ h => h) (Or.inr ⟨by rfl, rfl⟩) ?_ ?_
   rotate_left
   ·simp only [Act.put, sA, sB, sC]; rfl
   refine pure_ (i := 16) (N := some 52) (v := undef) (a' := ?_) z96 rfl rfl (by kernel_rfl) (fun _ _ _ h => h) (Or.inr ⟨by rfl, rfl⟩) ?_ ?_
   rotate_left
   ·simp only [Act.put, sA, sB, sC]; rfl
   refine pure_ (i := 17) (N := some 53) (v := undef) (a' := ?_) z97 rfl rfl (by kernel_rfl) (fun _ _ _ h => h) (Or.inr ⟨by rfl, rfl⟩) ?_ ?_
   rotate_left
   ·simp only [Act.put, sA, sB, sC]; rfl
   refine stq 18 54 z98 ?_
   refine stq 19 55 z99 ?_
   refine stq 20 56 z100 ?_
   refine stq 21 57 z101 ?_
   refine take_ (i := 22) (N := some 58) (v := ?_) (a' := ?_) z102 rfl rfl (by kernel_rfl) (fun _ _ _ h => h) (Or.inl ⟨by rfl, ?_⟩) hHeld ?_ ?_
   rotate_left
   ·rintro w' ⟨s0, s1, s2, s3⟩; go_simp; try with_reducible rfl
   rotate_left
   ·simp only [Act.put, sA, sB, sC]; rfl
   refine stq 23 59 z103 ?_
   refine stq 24 60 z104 ?_
   refine stq 25 61 z105 ?_
   refine pure_ (i := 26) (N := some 62) (v := undef) (a' := ?_) z106 rfl rfl (by kernel_rfl) (fun _ _ _ h => h) (Or.inr ⟨by rfl, rfl⟩) ?_ ?_
   rotate_left
   ·simp only [Act.put, sA, sB, sC]; rfl
   refine pure_ (i := 27) (N := some 63) (v := undef) (a' := ?_) z107 rfl rfl (by kernel_rfl) (fun _ _ _ h => h) (Or.inr ⟨by rfl, rfl⟩) ?_ ?_
   rotate_left
   ·simp only [Act.put, sA, sB, sC]; rfl
   refine pure_ (i := 28) (N := some 64) (v := undef) (a' := ?_) z108 rfl rfl (by kernel_rfl) (fun _ _ _ h => h) (Or.inr ⟨by rfl, rfl⟩) ?_ ?_
   rotate_left
   ·simp only [Act.put, sA, sB, sC]; rfl
   refine pure_ (i := 29) (N := some 65) (v := undef) (a' := ?_) z109 rfl rfl (by kernel_rfl) (fun _ _ _ h => h) (Or.inr ⟨by rfl, rfl⟩) ?_ ?_
   rotate_left
   ·simp only [Act.put, sA, sB, sC]; rfl
   refine stq 30 66 z110 ?_
   refine stq 31 67 z111 ?_
   refine stq 32 68 z112 ?_
   refine last_ (i := 33) (N := none) z113 rfl rfl (by kernel_rfl) (by decide) (fun K hK => ?_)
   refine skip_ (w1 := ?_) (by rfl) rfl ?_ ?_
   rotate_left
   ·go_simp; try rfl
   refine hK.out _ _ ?_
   clear hK K
   refine stq 34 69 z114 ?_
   refine stq 35 70 z115 ?_
   refine last_ (i := 36) (N := none) z116 rfl rfl (by kernel_rfl) (by decide) (fun K hK => ?_)
   refine skip_ (w1 := ?_) (by rfl) rfl ?_ ?_
   rotate_left
   ·go_simp; try rfl
   refine hK.out _ _ ?_
   clear hK K
   refine done_ (by kernel_rfl) ?_
   go_wp2_with fail
   go_ret2
   have hh := hst.out
   subst hqn hrn
   rw [e1, e2] at hh ⊢
   rw [l1] at hh
   rw [l2] at hh
   exact ⟨_, _, rfl, hh.drewN 1⟩
  ·have e1 : (decide (qn ≠ 0) && (sx != sy)) = false := by simp [hq0]
   have e2 : (decide (rn ≠ 0) && sx) = sx := by simp [hr0]
   have l1 : (digs WB qn).length = 0 := by omega
   rw [l1] at g1 ⊢
   have l2 : (0 : Int) < (digs WB rn).length := by have := hdr.2 hr0; omega
   have x2 := hgz.cell (.inl rfl) (.inl rfl) g6
   refine start_ (n := 37) (S := fun W => W.cell? ⟨gz, oz + 1, none⟩ = some (.slice pq 0 kq) ∧ W.cell? ⟨gr, or_ + 1, none⟩ = some (.slice pr (digs WB rn).length kr) ∧ W.cell? ⟨gx, ox, none⟩ = some (.bool sx) ∧ W.cell? ⟨gy, oy, none⟩ = some (.bool sy)) (ds := [33, 36]) z79 (by kernel_rfl) rfl rfl ⟨g1, g2, g3, g4⟩ (fun hHeld => ?_)
   refine stq 0 36 z80 ?_
   refine stq 1 37 z81 ?_
   refine stq 2 38 z82 ?_
   refine stq 3 39 z83 ?_
   refine stq 4 40 z84 ?_
   refine take_ (i := 5) (N := some 41) (v := ?_) (a' := ?_) z85 rfl rfl (by kernel_rfl) (fun _ _ _ h => h) (Or.inl ⟨by rfl, ?_⟩) hHeld ?_ ?_
   rotate_left
   ·rintro w' ⟨s0, s1, s2, s3⟩; go_simp; try with_reducible rfl
   rotate_left
   ·simp only [Act.put, sA, sB, sC]; rfl
   refine stq 6 42 z86 ?_
   refine stq 7 43 z87 ?_
   refine stq 8 44 z88 ?_
   refine pure_ (i := 9) (N := some 45) (v := undef) (a' := ?_) z89 rfl rfl (by kernel_rfl) (fun _ _ _ h => h) (Or.inr ⟨by rfl, rfl⟩) ?_ ?_
   rotate_left
   ·simp only [Act.put, sA, sB, sC]; rfl
   refine pure_ (i := 10) (N := some 46) (v := undef) (a' := ?_) z90 rfl rfl (by kernel_rfl) (fun _ _ _ h => h) (Or.inr ⟨by rfl, rfl⟩) ?_ ?_
   rotate_left
   ·simp only [Act.put, sA, sB, sC]; rfl
   refine pure_ (i := 11) (N := some 47) (v := undef) (a' := ?_) z91 rfl rfl (by kernel_rfl) (fun _ _ _ h => h) (Or.inr ⟨by rfl, rfl⟩) ?_ ?_
   rotate_left
   ·simp only [Act.put, sA, sB, sC]; rfl
   refine pure_ (i := 12) (N := some 48) (v := undef) (a' := ?_) z92 rfl rfl (by kernel_rfl) (fun _ _ _ h => h) (Or.inr ⟨by rfl, rfl⟩) ?_ ?_
   rotate_left
   ·simp only [Act.put, sA, sB, sC]; rfl
   refine pure_ (i := 13) (N := some 49) (v := undef) (a' := ?_) z93 rfl rfl (by kernel_rfl) (fun _ _ _ h => h) (Or.inr ⟨by rfl, rfl⟩) ?_ ?_
   rotate_left
   ·simp only [Act.put, sA, sB, sC]; rfl
   refine pure_ (i := 14) (N := some 50) (v := undef) (a' := ?_) z94 rfl rfl (by kernel_rfl) (fun _ _ _ h => h) (Or.inr ⟨by rfl, rfl⟩) ?_ ?_
   rotate_left
   ·simp only [Act.put, sA, sB, sC]; rfl
   refine pure_ (i := 15) (N := some 51) (v := undef) (a' := ?_) z95 rfl rfl (by kernel_rfl) (fun _ _ _ h => h) (Or.inr ⟨by rfl, rfl⟩) ?_ ?_
   rotate_left
   ·simp only [Act.put, sA, sB, sC]; rfl
   refine pure_ (i := 16) (N := some 52) (v := undef) (a' := ?_) z96 rfl rfl (by kernel_rfl) (fun _ _ _ h => h) (Or.inr ⟨by rfl, rfl⟩) ?_ ?_
   rotate_left
   ·simp only [Act.put, sA, sB, sC]; rfl
   refine pure_ (i := 17) (N := some 53) (v := undef) (a' := ?_) z97 rfl rfl (by kernel_rfl) (fun _ _ _ h => h) (Or.inr ⟨by rfl, rfl⟩) ?_ ?_
   rotate_left
   ·simp only [Act.put, sA, sB, sC]; rfl
   refine stq 18 54 z98 ?_
   refine stq 19 55 z99 ?_
   refine stq 20 56 z100 ?_
   refine stq 21 57 z101 ?_
   refine take_ (i := 22) (N := some 58) (v := ?_) (a' := ?_) z102 rfl rfl (by kernel_rfl) (fun _ _ _ h => h) (Or.inl ⟨by rfl, ?_⟩) hHeld ?_ ?_
   rotate_left
   ·rintro w' ⟨s0, s1, s2, s3⟩; go_simp; try with_reducible rfl
   rotate_left
   ·simp only [Act.put, sA, sB, sC]; rfl
   refine stq 23 59 z103 ?_
   refine stq 24 60 z104 ?_
   refine stq 25 61 z105 ?_
   refine stq 26 62 z106 ?_
   refine stq 27 63 z107 ?_
   refine stq 28 64 z108 ?_
   refine take_ (i := 29) (N := some 65) (v := ?_) (a' := ?_) z109 rfl rfl (by kernel_rfl) (fun _ _ _ h => h) (Or.inl ⟨by rfl, ?_⟩) hHeld ?_ ?_
   rotate_left
   ·rintro w' ⟨s0, s1, s2, s3⟩; go_simp; try with_reducible rfl
   rotate_left
   ·simp only [Act.put, sA, sB, sC]; rfl
   refine stq 30 66 z110 ?_
   refine stq 31 67 z111 ?_
   refine stq 32 68 z112 ?_
   refine last_ (i := 33) (N := none) z113 rfl rfl (by kernel_rfl) (by decide) (fun K hK => ?_)
   refine skip_ (w1 := ?_) (by rfl) rfl ?_ ?_
   rotate_left
   ·go_simp; try rfl
   refine hK.out _ _ ?_
   clear hK K
   refine stq 34 69 z114 ?_
   refine stq 35 70 z115 ?_
   refine last_ (i := 36) (N := none) z116 rfl rfl (by kernel_rfl) (by decide) (fun K hK => ?_)
   refine skip_ (w1 := ?_) (by rfl) rfl ?_ ?_
   rotate_left
   ·go_simp; try rfl
   refine hK.out _ _ ?_
   clear hK K
   refine done_ (by kernel_rfl) ?_
   go_wp2_with fail
   go_ret2
   have hh := hst.out
   subst hqn hrn
   rw [e1, e2] at hh ⊢
   rw [l1] at hh
   exact ⟨_, _, rfl, hh.drewN 1⟩
 ·by_cases hr0 : rn = 0
  ·have e1 : (decide (qn ≠ 0) && (sx != sy)) = (sx != sy) := by simp [hq0]
   have e2 : (decide (rn ≠ 0) && sx) = false := by simp [hr0]
   have l1 : (0 : Int) < (digs WB qn).length := by have := hdq.2 hq0; omega
   have l2 : (digs WB rn).length = 0 := by omega
   rw [l2] at g2 ⊢
   have x2 := hgz.cell (.inl rfl) (.inl rfl) g6
   refine start_ (n := 37) (S := fun W => W.cell? ⟨gz, oz + 1, none⟩ = some (.slice pq (digs WB qn).length kq) ∧ W.cell? ⟨gr, or_ + 1, none⟩ = some (.slice pr 0 kr) ∧ W.cell? ⟨gx, ox, none⟩ = some (.bool sx) ∧ W.cell? ⟨gy, oy, none⟩ = some (.bool sy)) (ds := [33, 36]) z79 (by kernel_rfl) rfl rfl ⟨g1, g2, g3, g4⟩ (fun hHeld => ?_)
   refine stq 0 36 z80 ?_
   refine stq 1 37 z81 ?_
   refine stq 2 38 z82 ?_
   refine stq 3 39 z83 ?_
   refine stq 4 40 z84 ?_
   refine take_ (i := 5) (N := some 41) (v := ?_) (a' := ?_) z85 rfl rfl (by kernel_rfl) (fun _ _ _ h => h) (Or.inl ⟨by rfl, ?_⟩) hHeld ?_ ?_
   rotate_left
   ·rintro w' ⟨s0, s1, s2, s3⟩; go_simp; try with_reducible rfl
   rotate_left
   ·simp only [Act.put, sA, sB, sC]; rfl
   refine stq 6 42 z86 ?_
   refine stq 7 43 z87 ?_
   refine stq 8 44 z88 ?_
   refine stq 9 45 z89 ?_
   refine stq 10 46 z90 ?_
   refine stq 11 47 z91 ?_
   refine take_ (i := 12) (N := some 48) (v := ?_) (a' := ?_) z92 rfl rfl (by kernel_rfl) (fun _ _ _ h => h) (Or.inl ⟨by rfl, ?_⟩) hHeld ?_ ?_
   rotate_left
   ·rintro w' ⟨s0, s1, s2, s3⟩; go_simp; try with_reducible rfl
   rotate_left
   ·simp only [Act.put, sA, sB, sC]; rfl
   refine stq 13 49 z93 ?_
   refine stq 14 50 z94 ?_
   refine stq 15 51 z95 ?_
   refine take_ (i := 16) (N := some 52) (v := ?_) (a' := ?_) z96 rfl rfl (by kernel_rfl) (fun _ _ _ h => h) (Or.inl ⟨by rfl, ?_⟩) hHeld ?_ ?_
   rotate_left
   ·rintro w' ⟨s0, s1, s2, s3⟩; go_simp; try with_reducible rfl
   rotate_left
   ·simp only [Act.put, sA, sB, sC]; rfl
   refine stq 17 53 z97 ?_
   refine stq 18 54 z98 ?_
   refine stq 19 55 z99 ?_
   refine stq 20 56 z100 ?_
   refine stq 21 57 z101 ?_
   refine take_ (i := 22) (N := some 58) (v := ?_) (a' := ?_) z102 rfl rfl (by kernel_rfl) (fun _ _ _ h => h) (Or.inl ⟨by rfl, ?_⟩) hHeld ?_ ?_
   rotate_left
   ·rintro w' ⟨s0, s1, s2, s3⟩; go_simp; try with_reducible rfl
   rotate_left
   ·simp only [Act.put, sA, sB, sC]; rfl
   refine stq 23 59 z103 ?_
   refine stq 24 60 z104 ?_
   refine stq 25 61 z105 ?_
   refine pure_ (i := 26) (N := some 62) (v := undef) (a' := ?_) z106 rfl rfl (by kernel_rfl) (fun _ _ _ h => h) (Or.inr ⟨by rfl, rfl⟩) ?_ ?_
   rotate_left
   ·simp only [Act.put, sA, sB, sC]; rfl
   refine pure_ (i := 27) (N := some 63) (v := undef) (a' := ?_) z107 rfl rfl (by kernel_rfl) (fun _ _ _ h => h) (Or.inr ⟨by rfl, rfl⟩) ?_ ?_
   rotate_left
   ·simp only [Act.put, sA, sB, sC]; rfl
   refine pure_ (i := 28) (N := some 64) (v := undef) (a' := ?_) z108 rfl rfl (by kernel_rfl) (fun _ _ _ h => h) (Or.inr ⟨by rfl, rfl⟩) ?_ ?_
   rotate_left
   ·simp only [Act.put, sA, sB, sC]; rfl
   refine pure_ (i := 29) (N := some 65) (v := undef) (a' := ?_) z109 rfl rfl (by kernel_rfl) (fun _ _ _ h => h) (Or.inr ⟨by rfl, rfl⟩) ?_ ?_
   rotate_left
   ·simp only [Act.put, sA, sB, sC]; rfl
   refine stq 30 66 z110 ?_
   refine stq 31 67 z111 ?_
   refine stq 32 68 z112 ?_
   refine last_ (i := 33) (N := none) z113 rfl rfl (by kernel_rfl) (by decide) (fun K hK => ?_)
   refine skip_ (w1 := ?_) (by rfl) rfl ?_ ?_
   rotate_left
   ·go_simp; try rfl
   refine hK.out _ _ ?_
   clear hK K
   refine stq 34 69 z114 ?_
   refine stq 35 70 z115 ?_
   refine last_ (i := 36) (N := none) z116 rfl rfl (by kernel_rfl) (by decide) (fun K hK => ?_)
   refine skip_ (w1 := ?_) (by rfl) rfl ?_ ?_
   rotate_left
   ·go_simp; try rfl
   refine hK.out _ _ ?_
   clear hK K
   refine done_ (by kernel_rfl) ?_
   go_wp2_with fail
   go_ret2
   have hh := hst.out
   subst hqn hrn
   rw [e1, e2] at hh ⊢
   rw [l2] at hh
   exact ⟨_, _, rfl, hh.drewN 1⟩
  ·have e1 : (decide (qn ≠ 0) && (sx != sy)) = (sx != sy) := by simp [hq0]
   have e2 : (decide (rn ≠ 0) && sx) = sx := by simp [hr0]
   have l1 : (0 : Int) < (digs WB qn).length := by have := hdq.2 hq0; omega
   have l2 : (0 : Int) < (digs WB rn).length := by have := hdr.2 hr0; omega
   have x2 := hgz.cell (.inl rfl) (.inl rfl) g6
   refine start_ (n := 37) (S := fun W => W.cell? ⟨gz, oz + 1, none⟩ = some (.slice pq (digs WB qn).length kq) ∧ W.cell? ⟨gr, or_ + 1, none⟩ = some (.slice pr (digs WB rn).length kr) ∧ W.cell? ⟨gx, ox, none⟩ = some (.bool sx) ∧ W.cell? ⟨gy, oy, none⟩ = some (.bool sy)) (ds := [33, 36]) z79 (by kernel_rfl) rfl rfl ⟨g1, g2, g3, g4⟩ (fun hHeld => ?_)
   refine stq 0 36 z80 ?_
   refine stq 1 37 z81 ?_
   refine stq 2 38 z82 ?_
   refine stq 3 39 z83 ?_
   refine stq 4 40 z84 ?_
   refine take_ (i := 5) (N := some 41) (v := ?_) (a' := ?_) z85 rfl rfl (by kernel_rfl) (fun _ _ _ h => h) (Or.inl ⟨by rfl, ?_⟩) hHeld ?_ ?_
   rotate_left
   ·rintro w' ⟨s0, s1, s2, s3⟩; go_simp; try with_reducible rfl
   rotate_left
   ·simp only [Act.put, sA, sB, sC]; rfl
   refine stq 6 42 z86 ?_
   refine stq 7 43 z87 ?_
   refine stq 8 44 z88 ?_
   refine stq 9 45 z89 ?_
   refine stq 10 46 z90 ?_
   refine stq 11 47 z91 ?_
   refine take_ (i := 12) (N := some 48) (v := ?_) (a' := ?_) z92 rfl rfl (by kernel_rfl) (fun _ _ _ h => h) (Or.inl ⟨by rfl, ?_⟩) hHeld ?_ ?_
   rotate_left
   ·rintro w' ⟨s0, s1, s2, s3⟩; go_simp; try with_reducible rfl
   rotate_left
   ·simp only [Act.put, sA, sB, sC]; rfl
   refine stq 13 49 z93 ?_
   refine stq 14 50 z94 ?_
   refine stq 15 51 z95 ?_
   refine take_ (i := 16) (N := some 52) (v := ?_) (a' := ?_) z96 rfl rfl (by kernel_rfl) (fun _ _ _ h => h) (Or.inl ⟨by rfl, ?_⟩) hHeld ?_ ?_
   rotate_left
   ·rintro w' ⟨s0, s1, s2, s3⟩; go_simp; try with_reducible rfl
   rotate_left
   ·simp only [Act.put, sA, sB, sC]; rfl
   refine stq 17 53 z97 ?_
   refine stq 18 54 z98 ?_
   refine stq 19 55 z99 ?_
   refine stq 20 56 z100 ?_
   refine stq 21 57 z101 ?_
   refine take_ (i := 22) (N := some 58) (v := ?_) (a' := ?_) z102 rfl rfl (by kernel_rfl) (fun _ _ _ h => h) (Or.inl ⟨by rfl, ?_⟩) hHeld ?_ ?_
   rotate_left
   ·rintro w' ⟨s0, s1, s2, s3⟩; go_simp; try with_reducible rfl
   rotate_left
   ·simp only [Act.put, sA, sB, sC]; rfl
   refine stq 23 59 z103 ?_
   refine stq 24 60 z104 ?_
   refine stq 25 61 z105 ?_
   refine stq 26 62 z106 ?_
   refine stq 27 63 z107 ?_
   refine stq 28 64 z108 ?_
   refine take_ (i := 29) (N := some 65) (v := ?_) (a' := ?_) z109 rfl rfl (by kernel_rfl) (fun _ _ _ h => h) (Or.inl ⟨by rfl, ?_⟩) hHeld ?_ ?_
   rotate_left
   ·rintro w' ⟨s0, s1, s2, s3⟩; go_simp; try with_reducible rfl
   rotate_left
   ·simp only [Act.put, sA, sB, sC]; rfl
   refine stq 30 66 z110 ?_
   refine stq 31 67 z111 ?_
   refine stq 32 68 z112 ?_
   refine last_ (i := 33) (N := none) z113 rfl rfl (by kernel_rfl) (by decide) (fun K hK => ?_)
   refine skip_ (w1 := ?_) (by rfl) rfl ?_ ?_
   rotate_left
   ·go_simp; try rfl
   refine hK.out _ _ ?_
   clear hK K
   refine stq 34 69 z114 ?_
   refine stq 35 70 z115 ?_
   refine last_ (i := 36) (N := none) z116 rfl rfl (by kernel_rfl) (by decide) (fun K hK => ?_)
   refine skip_ (w1 := ?_) (by rfl) rfl ?_ ?_
   rotate_left
   ·go_simp; try rfl
   refine hK.out _ _ ?_
   clear hK K
   refine done_ (by kernel_rfl) ?_
   go_wp2_with fail
   go_ret2
   have hh := hst.out
   subst hqn hrn
   rw [e1, e2] at hh ⊢
   exact ⟨_, _, rfl, hh.drewN 1⟩
end Go.Proofs.YtgamldefngehlaaGreatDoor
