/- Integers in memory: a quotient and its rest. -/
import Derived.Test.YthocmhkafgpgbaaGreatDoorM10
import Derived.Test.YthocmhkafgpgbaaGreatDoorM09
set_option linter.unusedVariables false
set_option linter.unusedSimpArgs false
namespace Go.Proofs.YthocmhkafgpgbaaGreatDoor
open Go.RowKit
open Go.Proofs.YthocmhkafgpgbaaGreatDoorW.PrintLast
structure QROut (w w' : World) (base gz oz gr or_ : Nat) (zv rv q r : Value) (s s' : Bool) (a b : Nat) : Prop where
 quo : IntAt w' base gz oz s q (a / b)
 rem : IntAt w' base gr or_ s' r (a % b)
 keep : Keeps (fun k => k = gz ∨ k = gr ∨ zv.ownBlock = some k ∨ rv.ownBlock = some k) w w'
 ownq : ∀ k, q.ownBlock = some k → zv.ownBlock = some k ∨ w.heap.size ≤ k
 ownr : ∀ k, r.ownBlock = some k → rv.ownBlock = some k ∨ w.heap.size ≤ k
 apart : ∀ k, q.ownBlock = some k → r.ownBlock ≠ some k
 rest : ∀ i, (gz = gr → i ≠ oz ∧ i ≠ oz + 1) → i ≠ or_ → i ≠ or_ + 1 → w'.cell? ⟨gr, i, none⟩ = w.cell? ⟨gr, i, none⟩
theorem DivOut.undrewN {w w1 : World} {n base : Nat} {zv z2 q r : Value} {a b : Nat} (h : DivOut (w.drewN n) w1 base zv z2 q r a b) : DivOut w w1 base zv z2 q r a b :=
 ⟨h.quo, h.rem, ⟨h.keep.os, h.keep.tape, h.keep.output, h.keep.size, h.keep.blk⟩, h.ownq, h.ownr, h.apart⟩
structure MidQR (w1 : World) (gz oz gr or_ gx ox gy oy : Nat) (zv rv : Value) (sz sr sx sy : Bool) : Prop where
 f1 : w1.frozen? ⟨gz, oz + 1, none⟩ = false
 f2 : w1.frozen? ⟨gr, or_ + 1, none⟩ = false
 c1 : w1.cell? ⟨gz, oz + 1, none⟩ = some zv
 c2 : w1.cell? ⟨gr, or_ + 1, none⟩ = some rv
 f3 : w1.frozen? ⟨gz, oz, none⟩ = false
 f4 : w1.frozen? ⟨gr, or_, none⟩ = false
 c3 : w1.cell? ⟨gz, oz, none⟩ = some (.bool sz)
 c4 : w1.cell? ⟨gr, or_, none⟩ = some (.bool sr)
 c5 : w1.cell? ⟨gx, ox, none⟩ = some (.bool sx)
 c6 : w1.cell? ⟨gy, oy, none⟩ = some (.bool sy)
theorem midQR {w w1 : World} {base bx by_ gz oz gx ox gy oy gr or_ nz nr a b : Nat} {sz sx sy sr : Bool} {zv xv yv rv q r : Value} (hz : IntAt w base gz oz sz zv nz) (hx : IntAt w bx gx ox sx xv a) (hy : IntAt w by_ gy oy sy yv b) (hr : IntAt w base gr or_ sr rv nr) (ho : DivOut w w1 base zv rv q r a b) :
  MidQR w1 gz oz gr or_ gx ox gy oy zv rv sz sr sx sy := by
 have hk := ho.keep
 have T : ∀ {g o : Nat} {s : Bool}, w.cell? ⟨g, o, none⟩ = some (.bool s) → ¬ (zv.ownBlock = some g ∨ rv.ownBlock = some g) := fun h e => e.elim (NatRow.apart hz.nat h) (NatRow.apart hr.nat h)
 have kz := hz.known.keeps (T := fun k => zv.ownBlock = some k ∨ rv.ownBlock = some k) hk (T hz.neg)
 have kr := hr.known.keeps (T := fun k => zv.ownBlock = some k ∨ rv.ownBlock = some k) hk (T hr.neg)
 exact ⟨kz.frozen _, kr.frozen _, hk.cellS hz.abs (T hz.neg), hk.cellS hr.abs (T hr.neg), kz.frozen _, kr.frozen _, hk.cellS hz.neg (T hz.neg), hk.cellS hr.neg (T hr.neg), hk.cellS hx.neg (T hx.neg), hk.cellS hy.neg (T hy.neg)⟩
structure MidQR2 (W : World) (gz oz gr or_ gx ox gy oy : Nat) (q r : Value) (sz sr sx sy : Bool) : Prop where
 c1 : W.cell? ⟨gz, oz + 1, none⟩ = some q
 c2 : W.cell? ⟨gr, or_ + 1, none⟩ = some r
 c3 : W.cell? ⟨gx, ox, none⟩ = some (.bool sx)
 c4 : W.cell? ⟨gy, oy, none⟩ = some (.bool sy)
 c5 : W.cell? ⟨gz, oz, none⟩ = some (.bool sz)
 c6 : W.cell? ⟨gr, or_, none⟩ = some (.bool sr)
 f5 : W.frozen? ⟨gz, oz, none⟩ = false
 f6 : W.frozen? ⟨gr, or_, none⟩ = false
theorem midQR2 {w1 : World} {gz oz gr or_ gx ox gy oy n m c c' : Nat} {p p' : Option Addr} {q r : Value} {sz sr sx sy : Bool} (hgz : gz ≠ gr) (hn : Known w1 gz) (hn' : Known w1 gr) (h : MidQR w1 gz oz gr or_ gx ox gy oy (.slice p n c) (.slice p' m c') sz sr sx sy) :
  MidQR2 ((w1.setCell ⟨gz, oz + 1, none⟩ q).setCell ⟨gr, or_ + 1, none⟩ r) gz oz gr or_ gx ox gy oy q r sz sr sx sy := by
 have ne : ∀ {g o : Nat} {s : Bool}, w1.cell? ⟨g, o, none⟩ = some (.bool s) → (⟨g, o, none⟩ : Addr) ≠ ⟨gz, oz + 1, none⟩ ∧ (⟨g, o, none⟩ : Addr) ≠ ⟨gr, or_ + 1, none⟩ := fun hc =>
  ⟨fun e => by rw [e, h.c1] at hc; simp at hc, fun e => by rw [e, h.c2] at hc; simp at hc⟩
 have two : ∀ {g o : Nat} {s : Bool}, w1.cell? ⟨g, o, none⟩ = some (.bool s) → ((w1.setCell ⟨gz, oz + 1, none⟩ q).setCell ⟨gr, or_ + 1, none⟩ r).cell? ⟨g, o, none⟩ = some (.bool s) := fun hc =>
  (cell_set_ne (ne hc).2 _).trans ((cell_set_ne (ne hc).1 _).trans hc)
 refine ⟨?_, ?_, two h.c5, two h.c6, two h.c3, two h.c4, ((hn.setCell _ _ _).setCell _ _ _).frozen _, ((hn'.setCell _ _ _).setCell _ _ _).frozen _⟩
 ·rw [cell_set_ne (by simp [hgz])]; exact cell_set_same h.c1 _
 ·exact cell_set_same ((cell_set_ne (by simp [hgz.symm]) _).trans h.c2) _
theorem QROut.mk' {w w1 : World} {base bx by_ gz oz gx ox gy oy gr or_ nz nr a b : Nat} {sz sx sy sr : Bool} {zv xv yv rv q r : Value} (hz : IntAt w base gz oz sz zv nz) (hx : IntAt w bx gx ox sx xv a) (hy : IntAt w by_ gy oy sy yv b) (hr : IntAt w base gr or_ sr rv nr) (hgz : gz ≠ gr) (ho : DivOut w w1 base zv rv q r a b) (s s' : Bool) :
  MidQR2 ((w1.setCell ⟨gz, oz + 1, none⟩ q).setCell ⟨gr, or_ + 1, none⟩ r) gz oz gr or_ gx ox gy oy q r sz sr sx sy ∧
  QROut w ((((w1.setCell ⟨gz, oz + 1, none⟩ q).setCell ⟨gr, or_ + 1, none⟩ r).setCell ⟨gz, oz, none⟩ (.bool s)).setCell ⟨gr, or_, none⟩ (.bool s')) base gz oz gr or_ zv rv q r s s' a b := by
 have hm := midQR hz hx hy hr ho
 have T : ∀ {g o : Nat} {s : Bool}, w.cell? ⟨g, o, none⟩ = some (.bool s) → ¬ (zv.ownBlock = some g ∨ rv.ownBlock = some g) := fun h e => e.elim (NatRow.apart hz.nat h) (NatRow.apart hr.nat h)
 have kz := hz.known.keeps (T := fun k => zv.ownBlock = some k ∨ rv.ownBlock = some k) ho.keep (T hz.neg)
 have kr := hr.known.keeps (T := fun k => zv.ownBlock = some k ∨ rv.ownBlock = some k) ho.keep (T hr.neg)
 obtain ⟨pz, cz, rfl⟩ := NatRow.form hz.nat
 obtain ⟨pr, cr, rfl⟩ := NatRow.form hr.nat
 have h2 := midQR2 (q := q) (r := r) hgz kz kr hm
 refine ⟨h2, ?_⟩
 have k3 : Keeps (fun k => k = gz ∨ k = gr) w1 ((((w1.setCell ⟨gz, oz + 1, none⟩ q).setCell ⟨gr, or_ + 1, none⟩ r).setCell ⟨gz, oz, none⟩ (.bool s)).setCell ⟨gr, or_, none⟩ (.bool s')) :=
  ((((Keeps.refl (fun k => k = gz ∨ k = gr) w1).setCell _ _ (fun _ => .inl rfl)).setCell _ _ (fun _ => .inr rfl)).setCell _ _ (fun _ => .inl rfl)).setCell _ _ (fun _ => .inr rfl)
 have aq : ∀ k, q.ownBlock = some k → ¬ (k = gz ∨ k = gr) := fun k hk e => by
  rcases e with rfl | rfl
  ·exact NatRow.apart ho.quo hm.c3 hk
  ·exact NatRow.apart ho.quo hm.c4 hk
 have ar : ∀ k, r.ownBlock = some k → ¬ (k = gz ∨ k = gr) := fun k hk e => by
  rcases e with rfl | rfl
  ·exact NatRow.apart ho.rem hm.c3 hk
  ·exact NatRow.apart ho.rem hm.c4 hk
 have hgr : gr ≠ gz := hgz.symm
 have e5 := cell_set_same h2.c5 (.bool s)
 refine ⟨⟨?_, ?_, ?_, NatRow.kept ho.quo k3 aq⟩, ⟨?_, ?_, ?_, NatRow.kept ho.rem k3 ar⟩, ?_, ho.ownq, ho.ownr, ho.apart, fun i h0 h1 h3 => ?_⟩
 ·exact (((kz.setCell _ _ _).setCell _ _ _).setCell _ _ _).setCell _ _ _
 ·rw [cell_set_ne (by simp [hgz])]; exact e5
 ·rw [cell_set_ne (by simp [hgz]), cell_set_ne (by simp)]; exact h2.c1
 ·exact (((kr.setCell _ _ _).setCell _ _ _).setCell _ _ _).setCell _ _ _
 ·exact cell_set_same ((cell_set_ne (by simp [hgr]) _).trans h2.c6) _
 ·rw [cell_set_ne (by simp), cell_set_ne (by simp [hgr])]; exact h2.c2
 ·exact ((((ho.keep.mono (T' := fun k => k = gz ∨ k = gr ∨ _ ∨ _) (fun _ _ h => .inr (.inr h))).setCell _ _ (fun _ => .inl rfl)).setCell _ _ (fun _ => .inr (.inl rfl))).setCell _ _ (fun _ => .inl rfl)).setCell _ _ (fun _ => .inr (.inl rfl))
 ·rw [cell_set_ne (by simp [h1]), cell_set_ne (by simp [hgr]), cell_set_ne (by simp [h3]), cell_set_ne (by simp [hgr])]
  exact ho.keep.cell (a := ⟨gr, i, none⟩) hr.known.lt (T hr.neg)
theorem QROut.drewN {w w1 : World} {base gz oz gr or_ a b : Nat} {zv rv q r : Value} {s s' : Bool} (n : Nat) (h : QROut w w1 base gz oz gr or_ zv rv q r s s' a b) : QROut w (w1.drewN n) base gz oz gr or_ zv rv q r s s' a b :=
 ⟨⟨h.quo.known, h.quo.neg, h.quo.abs, h.quo.nat⟩, ⟨h.rem.known, h.rem.neg, h.rem.abs, h.rem.nat⟩, h.keep.drewN n, h.ownq, h.ownr, h.apart, h.rest⟩
set_option maxRecDepth 100000 in
set_option maxHeartbeats 1000000 in
theorem intQuoRem_any (w : World) (base bx by_ gz oz gx ox gy oy gr or_ nz nr a b : Nat) (sz sx sy sr : Bool) (zv xv yv rv : Value) (hz : IntAt w base gz oz sz zv nz) (hx : IntAt w bx gx ox sx xv a) (hy : IntAt w by_ gy oy sy yv b) (hr : IntAt w base gr or_ sr rv nr)
  (hap : ∀ k, zv.ownBlock = some k → rv.ownBlock ≠ some k) (hgz : gz ≠ gr) (hB : base ≤ w.heap.size) (hl : (digs WB a).length ≤ 10000) (hb0 : b ≠ 0) (hb : b < WB) :
  Calls Tryz.prog 225 #[.pointer (some ⟨gz, oz, none⟩), .pointer (some ⟨gx, ox, none⟩), .pointer (some ⟨gy, oy, none⟩), .pointer (some ⟨gr, or_, none⟩)] w fun e w' => ∃ q r, e = .returned (.tuple #[.pointer (some ⟨gz, oz, none⟩), .pointer (some ⟨gr, or_, none⟩)]) ∧ QROut w w' base gz oz gr or_ zv rv q r (decide (a / b ≠ 0) && (sx != sy)) (decide (a % b ≠ 0) && sx) a b := by
 have hS := fun W (hW : Keeps (fun _ => False) w W) => divW_row W base bx by_ zv rv xv yv (.pointer none) _ _ a b (NatRow.kept hz.nat hW (fun _ _ h => h)) (NatRow.kept hr.nat hW (fun _ _ h => h)) (NatRow.kept hx.nat hW (fun _ _ h => h)) (NatRow.kept hy.nat hW (fun _ _ h => h)) hap (Nat.le_trans hB hW.size) hl hb0 hb
 have hS := Lib.hid hS
 have hM := Lib.hid (fun (w1 : World) (q r : Value) (ho : DivOut w.drew w1 base zv rv q r a b) => And.intro (midQR hz hx hy hr (ho.undrewN (n := 1))) (QROut.mk' hz hx hy hr hgz (ho.undrewN (n := 1)) (decide (a / b ≠ 0) && (sx != sy)) (decide (a % b ≠ 0) && sx)))
 have hgr : gr ≠ gz := hgz.symm
 have c1 := hz.abs
 have c2 := hx.abs
 have c3 := hy.abs
 have c4 := hr.abs
 go_enter Tryz.func225, Tryz.ntmps225
 go_wp2_with fail
 refine start_ (n := 28) (S := fun W => W.cell? ⟨gz, oz + 1, none⟩ = some zv ∧ W.cell? ⟨gr, or_ + 1, none⟩ = some rv ∧ W.cell? ⟨gx, ox + 1, none⟩ = some xv ∧ W.cell? ⟨gy, oy + 1, none⟩ = some yv) (ds := [18, 24, 27]) z49 (by kernel_rfl) rfl rfl ⟨c1, c4, c2, c3⟩ (fun hHeld => ?_)
 refine pure_ (i := 0) (N := some 11) (v := ?_) (a' := ?_) z50 rfl rfl (by kernel_rfl) (fun _ _ _ h => h) (Or.inl ⟨by rfl, ?_⟩) ?_ ?_
 rotate_left
 ·intro w'; go_simp; try with_reducible rfl
 rotate_left
 ·simp only [Act.put, sA, sB, sC]; rfl
 refine pure_ (i := 1) (N := some 12) (v := ?_) (a' := ?_) z51 rfl rfl (by kernel_rfl) (fun _ _ _ h => h) (Or.inl ⟨by rfl, ?_⟩) ?_ ?_
 rotate_left
 ·intro w'; go_simp; try with_reducible rfl
 rotate_left
 ·simp only [Act.put, sA, sB, sC]; rfl
 refine pure_ (i := 2) (N := some 13) (v := ?_) (a' := ?_) z52 rfl rfl (by kernel_rfl) (fun _ _ _ h => h) (Or.inl ⟨by rfl, ?_⟩) ?_ ?_
 rotate_left
 ·intro w'; go_simp; try with_reducible rfl
 rotate_left
 ·simp only [Act.put, sA, sB, sC]; rfl
 refine pure_ (i := 3) (N := some 14) (v := ?_) (a' := ?_) z53 rfl rfl (by kernel_rfl) (fun _ _ _ h => h) (Or.inl ⟨by rfl, ?_⟩) ?_ ?_
 rotate_left
 ·intro w'; go_simp; try with_reducible rfl
 rotate_left
 ·simp only [Act.put, sA, sB, sC]; rfl
 refine pure_ (i := 4) (N := some 15) (v := ?_) (a' := ?_) z54 rfl rfl (by kernel_rfl) (fun _ _ _ h => h) (Or.inl ⟨by rfl, ?_⟩) ?_ ?_
 rotate_left
 ·intro w'; go_simp; try with_reducible rfl
 rotate_left
 ·simp only [Act.put, sA, sB, sC]; rfl
 refine take_ (i := 5) (N := some 16) (v := ?_) (a' := ?_) z55 rfl rfl (by kernel_rfl) (fun _ _ _ h => h) (Or.inl ⟨by rfl, ?_⟩) hHeld ?_ ?_
 rotate_left
 ·rintro w' ⟨s0, s1, s2, s3⟩; go_simp; try with_reducible rfl
 rotate_left
 ·simp only [Act.put, sA, sB, sC]; rfl
 refine pure_ (i := 6) (N := some 17) (v := ?_) (a' := ?_) z56 rfl rfl (by kernel_rfl) (fun _ _ _ h => h) (Or.inl ⟨by rfl, ?_⟩) ?_ ?_
 rotate_left
 ·intro w'; go_simp; try with_reducible rfl
 rotate_left
 ·simp only [Act.put, sA, sB, sC]; rfl
 refine pure_ (i := 7) (N := some 18) (v := ?_) (a' := ?_) z57 rfl rfl (by kernel_rfl) (fun _ _ _ h => h) (Or.inl ⟨by rfl, ?_⟩) ?_ ?_
 rotate_left
 ·intro w'; go_simp; try with_reducible rfl
 rotate_left
 ·simp only [Act.put, sA, sB, sC]; rfl
 refine pure_ (i := 8) (N := some 19) (v := ?_) (a' := ?_) z58 rfl rfl (by kernel_rfl) (fun _ _ _ h => h) (Or.inl ⟨by rfl, ?_⟩) ?_ ?_
 rotate_left
 ·intro w'; go_simp; try with_reducible rfl
 rotate_left
 ·simp only [Act.put, sA, sB, sC]; rfl
 refine take_ (i := 9) (N := some 20) (v := ?_) (a' := ?_) z59 rfl rfl (by kernel_rfl) (fun _ _ _ h => h) (Or.inl ⟨by rfl, ?_⟩) hHeld ?_ ?_
 rotate_left
 ·rintro w' ⟨s0, s1, s2, s3⟩; go_simp; try with_reducible rfl
 rotate_left
 ·simp only [Act.put, sA, sB, sC]; rfl
 refine pure_ (i := 10) (N := some 21) (v := ?_) (a' := ?_) z60 rfl rfl (by kernel_rfl) (fun _ _ _ h => h) (Or.inl ⟨by rfl, ?_⟩) ?_ ?_
 rotate_left
 ·intro w'; go_simp; try with_reducible rfl
 rotate_left
 ·simp only [Act.put, sA, sB, sC]; rfl
 refine pure_ (i := 11) (N := some 22) (v := ?_) (a' := ?_) z61 rfl rfl (by kernel_rfl) (fun _ _ _ h => h) (Or.inl ⟨by rfl, ?_⟩) ?_ ?_
 rotate_left
 ·intro w'; go_simp; try with_reducible rfl
 rotate_left
 ·simp only [Act.put, sA, sB, sC]; rfl
 refine pure_ (i := 12) (N := some 23) (v := ?_) (a' := ?_) z62 rfl rfl (by kernel_rfl) (fun _ _ _ h => h) (Or.inl ⟨by rfl, ?_⟩) ?_ ?_
 rotate_left
 ·intro w'; go_simp; try with_reducible rfl
 rotate_left
 ·simp only [Act.put, sA, sB, sC]; rfl
 refine take_ (i := 13) (N := some 24) (v := ?_) (a' := ?_) z63 rfl rfl (by kernel_rfl) (fun _ _ _ h => h) (Or.inl ⟨by rfl, ?_⟩) hHeld ?_ ?_
 rotate_left
 ·rintro w' ⟨s0, s1, s2, s3⟩; go_simp; try with_reducible rfl
 rotate_left
 ·simp only [Act.put, sA, sB, sC]; rfl
 refine pure_ (i := 14) (N := some 25) (v := ?_) (a' := ?_) z64 rfl rfl (by kernel_rfl) (fun _ _ _ h => h) (Or.inl ⟨by rfl, ?_⟩) ?_ ?_
 rotate_left
 ·intro w'; go_simp; try with_reducible rfl
 rotate_left
 ·simp only [Act.put, sA, sB, sC]; rfl
 refine pure_ (i := 15) (N := some 26) (v := ?_) (a' := ?_) z65 rfl rfl (by kernel_rfl) (fun _ _ _ h => h) (Or.inl ⟨by rfl, ?_⟩) ?_ ?_
 rotate_left
 ·intro w'; go_simp; try with_reducible rfl
 rotate_left
 ·simp only [Act.put, sA, sB, sC]; rfl
 refine pure_ (i := 16) (N := some 27) (v := ?_) (a' := ?_) z66 rfl rfl (by kernel_rfl) (fun _ _ _ h => h) (Or.inl ⟨by rfl, ?_⟩) ?_ ?_
 rotate_left
 ·intro w'; go_simp; try with_reducible rfl
 rotate_left
 ·simp only [Act.put, sA, sB, sC]; rfl
 refine take_ (i := 17) (N := some 28) (v := ?_) (a' := ?_) z67 rfl rfl (by kernel_rfl) (fun _ _ _ h => h) (Or.inl ⟨by rfl, ?_⟩) hHeld ?_ ?_
 rotate_left
 ·rintro w' ⟨s0, s1, s2, s3⟩; go_simp; try with_reducible rfl
 rotate_left
 ·simp only [Act.put, sA, sB, sC]; rfl
 refine last_ (i := 18) (N := some 29) z68 rfl rfl (by kernel_rfl) (by decide) (fun K hK => ?_)
 refine goes_ Tryz.func209 (by kernel_rfl) rfl #[zv, .pointer none, rv, xv, yv] (by rfl) rfl rfl (by first | rfl | simp [Act.eval]) ?_
 refine (hS.out w.drew (Keeps.refl _ w).drew).mono ?_
 rintro e w1 ⟨q, r, rfl, ho⟩
 obtain ⟨pq, kq, rfl⟩ := NatRow.form ho.quo
 obtain ⟨pr, kr, rfl⟩ := NatRow.form ho.rem
 obtain ⟨⟨f1, f2, d1, d2, f3, f4, d3, d4, d5, d6⟩, ⟨g1, g2, g3, g4, g5, g6, g7, g8⟩, hst⟩ := hM.out w1 _ _ ho
 have hst := Lib.hid hst
 clear ho
 refine ⟨_, rfl, ?_⟩
 refine hK.out _ _ ?_
 clear hK K hHeld
 refine norm_ (a' := ?_) ?_ ?_
 rotate_left
 ·simp only [Act.put, sA, sB, sC]; rfl
 refine pure_ (i := 19) (N := some 10) (v := ?_) (a' := ?_) z69 rfl rfl (by kernel_rfl) (fun _ _ _ h => h) (Or.inl ⟨by rfl, ?_⟩) ?_ ?_
 rotate_left
 ·intro w'; go_simp; try with_reducible rfl
 rotate_left
 ·simp only [Act.put, sA, sB, sC]; rfl
 refine pure_ (i := 20) (N := some 30) (v := ?_) (a' := ?_) z70 rfl rfl (by kernel_rfl) (fun _ _ _ h => h) (Or.inl ⟨by rfl, ?_⟩) ?_ ?_
 rotate_left
 ·intro w'; go_simp; try with_reducible rfl
 rotate_left
 ·simp only [Act.put, sA, sB, sC]; rfl
 refine pure_ (i := 21) (N := some 31) (v := ?_) (a' := ?_) z71 rfl rfl (by kernel_rfl) (fun _ _ _ h => h) (Or.inl ⟨by rfl, ?_⟩) ?_ ?_
 rotate_left
 ·intro w'; go_simp; try with_reducible rfl
 rotate_left
 ·simp only [Act.put, sA, sB, sC]; rfl
 refine pure_ (i := 22) (N := some 32) (v := ?_) (a' := ?_) z72 rfl rfl (by kernel_rfl) (fun _ _ _ h => h) (Or.inl ⟨by rfl, ?_⟩) ?_ ?_
 rotate_left
 ·intro w'; go_simp; try with_reducible rfl
 rotate_left
 ·simp only [Act.put, sA, sB, sC]; rfl
 refine pure_ (i := 23) (N := some 33) (v := ?_) (a' := ?_) z73 rfl rfl (by kernel_rfl) (fun _ _ _ h => h) (Or.inl ⟨by rfl, ?_⟩) ?_ ?_
 rotate_left
 ·intro w'; go_simp; try with_reducible rfl
 rotate_left
 ·simp only [Act.put, sA, sB, sC]; rfl
 refine last_ (i := 24) (N := none) z74 rfl rfl (by kernel_rfl) (by decide) (fun K hK => ?_)
 refine skip_ (w1 := ?_) (by rfl) rfl ?_ ?_
 rotate_left
 ·go_simp; try rfl
 refine hK.out _ _ ?_
 clear hK K
 refine pure_ (i := 25) (N := some 34) (v := ?_) (a' := ?_) z75 rfl rfl (by kernel_rfl) (fun _ _ _ h => h) (Or.inl ⟨by rfl, ?_⟩) ?_ ?_
 rotate_left
 ·intro w'; go_simp; try with_reducible rfl
 rotate_left
 ·simp only [Act.put, sA, sB, sC]; rfl
 refine pure_ (i := 26) (N := some 35) (v := ?_) (a' := ?_) z76 rfl rfl (by kernel_rfl) (fun _ _ _ h => h) (Or.inl ⟨by rfl, ?_⟩) ?_ ?_
 rotate_left
 ·intro w'; go_simp; try with_reducible rfl
 rotate_left
 ·simp only [Act.put, sA, sB, sC]; rfl
 refine last_ (i := 27) (N := none) z77 rfl rfl (by kernel_rfl) (by decide) (fun K hK => ?_)
 refine skip_ (w1 := ?_) (by rfl) rfl ?_ ?_
 rotate_left
 ·go_simp; try rfl
 refine hK.out _ _ ?_
 clear hK K
 refine done_ (by kernel_rfl) ?_
 go_wp2_with fail
 clear f1 f2 d1 d2 f3 f4 d3 d4 d5 d6
 generalize hW2 : (w1.setCell ⟨gz, oz + 1, none⟩ (.slice pq (digs WB (a / b)).length kq)).setCell ⟨gr, or_ + 1, none⟩ (.slice pr (digs WB (a % b)).length kr) = W2 at *
 have hdq := digs_len_pos WB_one (n := a / b)
 have hdr := digs_len_pos WB_one (n := a % b)
 generalize hqn : a / b = qn at *
 generalize hrn : a % b = rn at *
 by_cases hq0 : qn = 0
 ·by_cases hr0 : rn = 0
  ·have e1 : (decide (qn ≠ 0) && (sx != sy)) = false := by simp [hq0]
   have e2 : (decide (rn ≠ 0) && sx) = false := by simp [hr0]
   have l1 : (digs WB qn).length = 0 := by omega
   rw [l1] at g1 ⊢
   have l2 : (digs WB rn).length = 0 := by omega
   rw [l2] at g2 ⊢
   refine start_ (n := 37) (S := fun W => W.cell? ⟨gz, oz + 1, none⟩ = some (.slice pq 0 kq) ∧ W.cell? ⟨gr, or_ + 1, none⟩ = some (.slice pr 0 kr) ∧ W.cell? ⟨gx, ox, none⟩ = some (.bool sx) ∧ W.cell? ⟨gy, oy, none⟩ = some (.bool sy)) (ds := [33, 36]) z78 (by kernel_rfl) rfl rfl ⟨g1, g2, g3, g4⟩ (fun hHeld => ?_)
   refine pure_ (i := 0) (N := some 36) (v := ?_) (a' := ?_) z79 rfl rfl (by kernel_rfl) (fun _ _ _ h => h) (Or.inl ⟨by rfl, ?_⟩) ?_ ?_
   rotate_left
   ·intro w'; go_simp; try with_reducible rfl
   rotate_left
   ·simp only [Act.put, sA, sB, sC]; rfl
   refine pure_ (i := 1) (N := some 37) (v := ?_) (a' := ?_) z80 rfl rfl (by kernel_rfl) (fun _ _ _ h => h) (Or.inl ⟨by rfl, ?_⟩) ?_ ?_
   rotate_left
   ·intro w'; go_simp; try with_reducible rfl
   rotate_left
   ·simp only [Act.put, sA, sB, sC]; rfl
   refine pure_ (i := 2) (N := some 38) (v := ?_) (a' := ?_) z81 rfl rfl (by kernel_rfl) (fun _ _ _ h => h) (Or.inl ⟨by rfl, ?_⟩) ?_ ?_
   rotate_left
   ·intro w'; go_simp; try with_reducible rfl
   rotate_left
   ·simp only [Act.put, sA, sB, sC]; rfl
   refine pure_ (i := 3) (N := some 39) (v := ?_) (a' := ?_) z82 rfl rfl (by kernel_rfl) (fun _ _ _ h => h) (Or.inl ⟨by rfl, ?_⟩) ?_ ?_
   rotate_left
   ·intro w'; go_simp; try with_reducible rfl
   rotate_left
   ·simp only [Act.put, sA, sB, sC]; rfl
   refine pure_ (i := 4) (N := some 40) (v := ?_) (a' := ?_) z83 rfl rfl (by kernel_rfl) (fun _ _ _ h => h) (Or.inl ⟨by rfl, ?_⟩) ?_ ?_
   rotate_left
   ·intro w'; go_simp; try with_reducible rfl
   rotate_left
   ·simp only [Act.put, sA, sB, sC]; rfl
   refine take_ (i := 5) (N := some 41) (v := ?_) (a' := ?_) z84 rfl rfl (by kernel_rfl) (fun _ _ _ h => h) (Or.inl ⟨by rfl, ?_⟩) hHeld ?_ ?_
   rotate_left
   ·rintro w' ⟨s0, s1, s2, s3⟩; go_simp; try with_reducible rfl
   rotate_left
   ·simp only [Act.put, sA, sB, sC]; rfl
   refine pure_ (i := 6) (N := some 42) (v := ?_) (a' := ?_) z85 rfl rfl (by kernel_rfl) (fun _ _ _ h => h) (Or.inl ⟨by rfl, ?_⟩) ?_ ?_
   rotate_left
   ·intro w'; go_simp; try with_reducible rfl
   rotate_left
   ·simp only [Act.put, sA, sB, sC]; rfl
   refine pure_ (i := 7) (N := some 43) (v := ?_) (a' := ?_) z86 rfl rfl (by kernel_rfl) (fun _ _ _ h => h) (Or.inl ⟨by rfl, ?_⟩) ?_ ?_
   rotate_left
   ·intro w'; go_simp; try with_reducible rfl
   rotate_left
   ·simp only [Act.put, sA, sB, sC]; rfl
   refine pure_ (i := 8) (N := some 44) (v := ?_) (a' := ?_) z87 rfl rfl (by kernel_rfl) (fun _ _ _ h => h) (Or.inl ⟨by rfl, ?_⟩) ?_ ?_
   rotate_left
   ·intro w'; go_simp; try with_reducible rfl
   rotate_left
   ·simp only [Act.put, sA, sB, sC]; rfl
   refine pure_ (i := 9) (N := some 45) (v := undef) (a' := ?_) z88 rfl rfl (by kernel_rfl) (fun _ _ _ h => h) (Or.inr ⟨by rfl, rfl⟩) ?_ ?_
   rotate_left
   ·simp only [Act.put, sA, sB, sC]; rfl
   refine pure_ (i := 10) (N := some 46) (v := undef) (a' := ?_) z89 rfl rfl (by kernel_rfl) (fun _ _ _ h => h) (Or.inr ⟨by rfl, rfl⟩) ?_ ?_
   rotate_left
   ·simp only [Act.put, sA, sB, sC]; rfl
   refine pure_ (i := 11) (N := some 47) (v := undef) (a' := ?_) z90 rfl rfl (by kernel_rfl) (fun _ _ _ h => h) (Or.inr ⟨by rfl, rfl⟩) ?_ ?_
   rotate_left
   ·simp only [Act.put, sA, sB, sC]; rfl
   refine pure_ (i := 12) (N := some 48) (v := undef) (a' := ?_) z91 rfl rfl (by kernel_rfl) (fun _ _ _ h => h) (Or.inr ⟨by rfl, rfl⟩) ?_ ?_
   rotate_left
   ·simp only [Act.put, sA, sB, sC]; rfl
   refine pure_ (i := 13) (N := some 49) (v := undef) (a' := ?_) z92 rfl rfl (by kernel_rfl) (fun _ _ _ h => h) (Or.inr ⟨by rfl, rfl⟩) ?_ ?_
   rotate_left
   ·simp only [Act.put, sA, sB, sC]; rfl
   refine pure_ (i := 14) (N := some 50) (v := undef) (a' := ?_) z93 rfl rfl (by kernel_rfl) (fun _ _ _ h => h) (Or.inr ⟨by rfl, rfl⟩) ?_ ?_
   rotate_left
   ·simp only [Act.put, sA, sB, sC]; rfl
   refine pure_ (i := 15) (N := some 51) (v := undef) (a' := ?_) z94 rfl rfl (by kernel_rfl) (fun _ _ _ h => h) (Or.inr ⟨by rfl, rfl⟩) ?_ ?_
   rotate_left
   ·simp only [Act.put, sA, sB, sC]; rfl
   refine pure_ (i := 16) (N := some 52) (v := undef) (a' := ?_) z95 rfl rfl (by kernel_rfl) (fun _ _ _ h => h) (Or.inr ⟨by rfl, rfl⟩) ?_ ?_
   rotate_left
   ·simp only [Act.put, sA, sB, sC]; rfl
   refine pure_ (i := 17) (N := some 53) (v := undef) (a' := ?_) z96 rfl rfl (by kernel_rfl) (fun _ _ _ h => h) (Or.inr ⟨by rfl, rfl⟩) ?_ ?_
   rotate_left
   ·simp only [Act.put, sA, sB, sC]; rfl
   refine pure_ (i := 18) (N := some 54) (v := ?_) (a' := ?_) z97 rfl rfl (by kernel_rfl) (fun _ _ _ h => h) (Or.inl ⟨by rfl, ?_⟩) ?_ ?_
   rotate_left
   ·intro w'; go_simp; try with_reducible rfl
   rotate_left
   ·simp only [Act.put, sA, sB, sC]; rfl
   refine pure_ (i := 19) (N := some 55) (v := ?_) (a' := ?_) z98 rfl rfl (by kernel_rfl) (fun _ _ _ h => h) (Or.inl ⟨by rfl, ?_⟩) ?_ ?_
   rotate_left
   ·intro w'; go_simp; try with_reducible rfl
   rotate_left
   ·simp only [Act.put, sA, sB, sC]; rfl
   refine pure_ (i := 20) (N := some 56) (v := ?_) (a' := ?_) z99 rfl rfl (by kernel_rfl) (fun _ _ _ h => h) (Or.inl ⟨by rfl, ?_⟩) ?_ ?_
   rotate_left
   ·intro w'; go_simp; try with_reducible rfl
   rotate_left
   ·simp only [Act.put, sA, sB, sC]; rfl
   refine pure_ (i := 21) (N := some 57) (v := ?_) (a' := ?_) z100 rfl rfl (by kernel_rfl) (fun _ _ _ h => h) (Or.inl ⟨by rfl, ?_⟩) ?_ ?_
   rotate_left
   ·intro w'; go_simp; try with_reducible rfl
   rotate_left
   ·simp only [Act.put, sA, sB, sC]; rfl
   refine take_ (i := 22) (N := some 58) (v := ?_) (a' := ?_) z101 rfl rfl (by kernel_rfl) (fun _ _ _ h => h) (Or.inl ⟨by rfl, ?_⟩) hHeld ?_ ?_
   rotate_left
   ·rintro w' ⟨s0, s1, s2, s3⟩; go_simp; try with_reducible rfl
   rotate_left
   ·simp only [Act.put, sA, sB, sC]; rfl
   refine pure_ (i := 23) (N := some 59) (v := ?_) (a' := ?_) z102 rfl rfl (by kernel_rfl) (fun _ _ _ h => h) (Or.inl ⟨by rfl, ?_⟩) ?_ ?_
   rotate_left
   ·intro w'; go_simp; try with_reducible rfl
   rotate_left
   ·simp only [Act.put, sA, sB, sC]; rfl
   refine pure_ (i := 24) (N := some 60) (v := ?_) (a' := ?_) z103 rfl rfl (by kernel_rfl) (fun _ _ _ h => h) (Or.inl ⟨by rfl, ?_⟩) ?_ ?_
   rotate_left
   ·intro w'; go_simp; try with_reducible rfl
   rotate_left
   ·simp only [Act.put, sA, sB, sC]; rfl
   refine pure_ (i := 25) (N := some 61) (v := ?_) (a' := ?_) z104 rfl rfl (by kernel_rfl) (fun _ _ _ h => h) (Or.inl ⟨by rfl, ?_⟩) ?_ ?_
   rotate_left
   ·intro w'; go_simp; try with_reducible rfl
   rotate_left
   ·simp only [Act.put, sA, sB, sC]; rfl
   refine pure_ (i := 26) (N := some 62) (v := undef) (a' := ?_) z105 rfl rfl (by kernel_rfl) (fun _ _ _ h => h) (Or.inr ⟨by rfl, rfl⟩) ?_ ?_
   rotate_left
   ·simp only [Act.put, sA, sB, sC]; rfl
   refine pure_ (i := 27) (N := some 63) (v := undef) (a' := ?_) z106 rfl rfl (by kernel_rfl) (fun _ _ _ h => h) (Or.inr ⟨by rfl, rfl⟩) ?_ ?_
   rotate_left
   ·simp only [Act.put, sA, sB, sC]; rfl
   refine pure_ (i := 28) (N := some 64) (v := undef) (a' := ?_) z107 rfl rfl (by kernel_rfl) (fun _ _ _ h => h) (Or.inr ⟨by rfl, rfl⟩) ?_ ?_
   rotate_left
   ·simp only [Act.put, sA, sB, sC]; rfl
   refine pure_ (i := 29) (N := some 65) (v := undef) (a' := ?_) z108 rfl rfl (by kernel_rfl) (fun _ _ _ h => h) (Or.inr ⟨by rfl, rfl⟩) ?_ ?_
   rotate_left
   ·simp only [Act.put, sA, sB, sC]; rfl
   refine pure_ (i := 30) (N := some 66) (v := ?_) (a' := ?_) z109 rfl rfl (by kernel_rfl) (fun _ _ _ h => h) (Or.inl ⟨by rfl, ?_⟩) ?_ ?_
   rotate_left
   ·intro w'; go_simp; try with_reducible rfl
   rotate_left
   ·simp only [Act.put, sA, sB, sC]; rfl
   refine pure_ (i := 31) (N := some 67) (v := ?_) (a' := ?_) z110 rfl rfl (by kernel_rfl) (fun _ _ _ h => h) (Or.inl ⟨by rfl, ?_⟩) ?_ ?_
   rotate_left
   ·intro w'; go_simp; try with_reducible rfl
   rotate_left
   ·simp only [Act.put, sA, sB, sC]; rfl
   refine pure_ (i := 32) (N := some 68) (v := ?_) (a' := ?_) z111 rfl rfl (by kernel_rfl) (fun _ _ _ h => h) (Or.inl ⟨by rfl, ?_⟩) ?_ ?_
   rotate_left
   ·intro w'; go_simp; try with_reducible rfl
   rotate_left
   ·simp only [Act.put, sA, sB, sC]; rfl
   refine last_ (i := 33) (N := none) z112 rfl rfl (by kernel_rfl) (by decide) (fun K hK => ?_)
   refine skip_ (w1 := ?_) (by rfl) rfl ?_ ?_
   rotate_left
   ·go_simp; try rfl
   refine hK.out _ _ ?_
   clear hK K
   refine pure_ (i := 34) (N := some 69) (v := ?_) (a' := ?_) z113 rfl rfl (by kernel_rfl) (fun _ _ _ h => h) (Or.inl ⟨by rfl, ?_⟩) ?_ ?_
   rotate_left
   ·intro w'; go_simp; try with_reducible rfl
   rotate_left
   ·simp only [Act.put, sA, sB, sC]; rfl
   refine pure_ (i := 35) (N := some 70) (v := ?_) (a' := ?_) z114 rfl rfl (by kernel_rfl) (fun _ _ _ h => h) (Or.inl ⟨by rfl, ?_⟩) ?_ ?_
   rotate_left
   ·intro w'; go_simp; try with_reducible rfl
   rotate_left
   ·simp only [Act.put, sA, sB, sC]; rfl
   refine last_ (i := 36) (N := none) z115 rfl rfl (by kernel_rfl) (by decide) (fun K hK => ?_)
   refine skip_ (w1 := ?_) (by rfl) rfl ?_ ?_
   rotate_left
   ·go_simp; try rfl
   refine hK.out _ _ ?_
   clear hK K
   refine done_ (by kernel_rfl) ?_
   go_wp2_with fail
   go_ret2
   have hh := hst.out
   subst hqn hrn
   rw [e1, e2] at hh ⊢
   rw [l1] at hh
   rw [l2] at hh
   exact ⟨_, _, rfl, hh.drewN 1⟩
  ·have e1 : (decide (qn ≠ 0) && (sx != sy)) = false := by simp [hq0]
   have e2 : (decide (rn ≠ 0) && sx) = sx := by simp [hr0]
   have l1 : (digs WB qn).length = 0 := by omega
   rw [l1] at g1 ⊢
   have l2 : (0 : Int) < (digs WB rn).length := by have := hdr.2 hr0; omega
   refine start_ (n := 37) (S := fun W => W.cell? ⟨gz, oz + 1, none⟩ = some (.slice pq 0 kq) ∧ W.cell? ⟨gr, or_ + 1, none⟩ = some (.slice pr (digs WB rn).length kr) ∧ W.cell? ⟨gx, ox, none⟩ = some (.bool sx) ∧ W.cell? ⟨gy, oy, none⟩ = some (.bool sy)) (ds := [33, 36]) z78 (by kernel_rfl) rfl rfl ⟨g1, g2, g3, g4⟩ (fun hHeld => ?_)
   refine pure_ (i := 0) (N := some 36) (v := ?_) (a' := ?_) z79 rfl rfl (by kernel_rfl) (fun _ _ _ h => h) (Or.inl ⟨by rfl, ?_⟩) ?_ ?_
   rotate_left
   ·intro w'; go_simp; try with_reducible rfl
   rotate_left
   ·simp only [Act.put, sA, sB, sC]; rfl
   refine pure_ (i := 1) (N := some 37) (v := ?_) (a' := ?_) z80 rfl rfl (by kernel_rfl) (fun _ _ _ h => h) (Or.inl ⟨by rfl, ?_⟩) ?_ ?_
   rotate_left
   ·intro w'; go_simp; try with_reducible rfl
   rotate_left
   ·simp only [Act.put, sA, sB, sC]; rfl
   refine pure_ (i := 2) (N := some 38) (v := ?_) (a' := ?_) z81 rfl rfl (by kernel_rfl) (fun _ _ _ h => h) (Or.inl ⟨by rfl, ?_⟩) ?_ ?_
   rotate_left
   ·intro w'; go_simp; try with_reducible rfl
   rotate_left
   ·simp only [Act.put, sA, sB, sC]; rfl
   refine pure_ (i := 3) (N := some 39) (v := ?_) (a' := ?_) z82 rfl rfl (by kernel_rfl) (fun _ _ _ h => h) (Or.inl ⟨by rfl, ?_⟩) ?_ ?_
   rotate_left
   ·intro w'; go_simp; try with_reducible rfl
   rotate_left
   ·simp only [Act.put, sA, sB, sC]; rfl
   refine pure_ (i := 4) (N := some 40) (v := ?_) (a' := ?_) z83 rfl rfl (by kernel_rfl) (fun _ _ _ h => h) (Or.inl ⟨by rfl, ?_⟩) ?_ ?_
   rotate_left
   ·intro w'; go_simp; try with_reducible rfl
   rotate_left
   ·simp only [Act.put, sA, sB, sC]; rfl
   refine take_ (i := 5) (N := some 41) (v := ?_) (a' := ?_) z84 rfl rfl (by kernel_rfl) (fun _ _ _ h => h) (Or.inl ⟨by rfl, ?_⟩) hHeld ?_ ?_
   rotate_left
   ·rintro w' ⟨s0, s1, s2, s3⟩; go_simp; try with_reducible rfl
   rotate_left
   ·simp only [Act.put, sA, sB, sC]; rfl
   refine pure_ (i := 6) (N := some 42) (v := ?_) (a' := ?_) z85 rfl rfl (by kernel_rfl) (fun _ _ _ h => h) (Or.inl ⟨by rfl, ?_⟩) ?_ ?_
   rotate_left
   ·intro w'; go_simp; try with_reducible rfl
   rotate_left
   ·simp only [Act.put, sA, sB, sC]; rfl
   refine pure_ (i := 7) (N := some 43) (v := ?_) (a' := ?_) z86 rfl rfl (by kernel_rfl) (fun _ _ _ h => h) (Or.inl ⟨by rfl, ?_⟩) ?_ ?_
   rotate_left
   ·intro w'; go_simp; try with_reducible rfl
   rotate_left
   ·simp only [Act.put, sA, sB, sC]; rfl
   refine pure_ (i := 8) (N := some 44) (v := ?_) (a' := ?_) z87 rfl rfl (by kernel_rfl) (fun _ _ _ h => h) (Or.inl ⟨by rfl, ?_⟩) ?_ ?_
   rotate_left
   ·intro w'; go_simp; try with_reducible rfl
   rotate_left
   ·simp only [Act.put, sA, sB, sC]; rfl
   refine pure_ (i := 9) (N := some 45) (v := undef) (a' := ?_) z88 rfl rfl (by kernel_rfl) (fun _ _ _ h => h) (Or.inr ⟨by rfl, rfl⟩) ?_ ?_
   rotate_left
   ·simp only [Act.put, sA, sB, sC]; rfl
   refine pure_ (i := 10) (N := some 46) (v := undef) (a' := ?_) z89 rfl rfl (by kernel_rfl) (fun _ _ _ h => h) (Or.inr ⟨by rfl, rfl⟩) ?_ ?_
   rotate_left
   ·simp only [Act.put, sA, sB, sC]; rfl
   refine pure_ (i := 11) (N := some 47) (v := undef) (a' := ?_) z90 rfl rfl (by kernel_rfl) (fun _ _ _ h => h) (Or.inr ⟨by rfl, rfl⟩) ?_ ?_
   rotate_left
   ·simp only [Act.put, sA, sB, sC]; rfl
   refine pure_ (i := 12) (N := some 48) (v := undef) (a' := ?_) z91 rfl rfl (by kernel_rfl) (fun _ _ _ h => h) (Or.inr ⟨by rfl, rfl⟩) ?_ ?_
   rotate_left
   ·simp only [Act.put, sA, sB, sC]; rfl
   refine pure_ (i := 13) (N := some 49) (v := undef) (a' := ?_) z92 rfl rfl (by kernel_rfl) (fun _ _ _ h => h) (Or.inr ⟨by rfl, rfl⟩) ?_ ?_
   rotate_left
   ·simp only [Act.put, sA, sB, sC]; rfl
   refine pure_ (i := 14) (N := some 50) (v := undef) (a' := ?_) z93 rfl rfl (by kernel_rfl) (fun _ _ _ h => h) (Or.inr ⟨by rfl, rfl⟩) ?_ ?_
   rotate_left
   ·simp only [Act.put, sA, sB, sC]; rfl
   refine pure_ (i := 15) (N := some 51) (v := undef) (a' := ?_) z94 rfl rfl (by kernel_rfl) (fun _ _ _ h => h) (Or.inr ⟨by rfl, rfl⟩) ?_ ?_
   rotate_left
   ·simp only [Act.put, sA, sB, sC]; rfl
   refine pure_ (i := 16) (N := some 52) (v := undef) (a' := ?_) z95 rfl rfl (by kernel_rfl) (fun _ _ _ h => h) (Or.inr ⟨by rfl, rfl⟩) ?_ ?_
   rotate_left
   ·simp only [Act.put, sA, sB, sC]; rfl
   refine pure_ (i := 17) (N := some 53) (v := undef) (a' := ?_) z96 rfl rfl (by kernel_rfl) (fun _ _ _ h => h) (Or.inr ⟨by rfl, rfl⟩) ?_ ?_
   rotate_left
   ·simp only [Act.put, sA, sB, sC]; rfl
   refine pure_ (i := 18) (N := some 54) (v := ?_) (a' := ?_) z97 rfl rfl (by kernel_rfl) (fun _ _ _ h => h) (Or.inl ⟨by rfl, ?_⟩) ?_ ?_
   rotate_left
   ·intro w'; go_simp; try with_reducible rfl
   rotate_left
   ·simp only [Act.put, sA, sB, sC]; rfl
   refine pure_ (i := 19) (N := some 55) (v := ?_) (a' := ?_) z98 rfl rfl (by kernel_rfl) (fun _ _ _ h => h) (Or.inl ⟨by rfl, ?_⟩) ?_ ?_
   rotate_left
   ·intro w'; go_simp; try with_reducible rfl
   rotate_left
   ·simp only [Act.put, sA, sB, sC]; rfl
   refine pure_ (i := 20) (N := some 56) (v := ?_) (a' := ?_) z99 rfl rfl (by kernel_rfl) (fun _ _ _ h => h) (Or.inl ⟨by rfl, ?_⟩) ?_ ?_
   rotate_left
   ·intro w'; go_simp; try with_reducible rfl
   rotate_left
   ·simp only [Act.put, sA, sB, sC]; rfl
   refine pure_ (i := 21) (N := some 57) (v := ?_) (a' := ?_) z100 rfl rfl (by kernel_rfl) (fun _ _ _ h => h) (Or.inl ⟨by rfl, ?_⟩) ?_ ?_
   rotate_left
   ·intro w'; go_simp; try with_reducible rfl
   rotate_left
   ·simp only [Act.put, sA, sB, sC]; rfl
   refine take_ (i := 22) (N := some 58) (v := ?_) (a' := ?_) z101 rfl rfl (by kernel_rfl) (fun _ _ _ h => h) (Or.inl ⟨by rfl, ?_⟩) hHeld ?_ ?_
   rotate_left
   ·rintro w' ⟨s0, s1, s2, s3⟩; go_simp; try with_reducible rfl
   rotate_left
   ·simp only [Act.put, sA, sB, sC]; rfl
   refine pure_ (i := 23) (N := some 59) (v := ?_) (a' := ?_) z102 rfl rfl (by kernel_rfl) (fun _ _ _ h => h) (Or.inl ⟨by rfl, ?_⟩) ?_ ?_
   rotate_left
   ·intro w'; go_simp; try with_reducible rfl
   rotate_left
   ·simp only [Act.put, sA, sB, sC]; rfl
   refine pure_ (i := 24) (N := some 60) (v := ?_) (a' := ?_) z103 rfl rfl (by kernel_rfl) (fun _ _ _ h => h) (Or.inl ⟨by rfl, ?_⟩) ?_ ?_
   rotate_left
   ·intro w'; go_simp; try with_reducible rfl
   rotate_left
   ·simp only [Act.put, sA, sB, sC]; rfl
   refine pure_ (i := 25) (N := some 61) (v := ?_) (a' := ?_) z104 rfl rfl (by kernel_rfl) (fun _ _ _ h => h) (Or.inl ⟨by rfl, ?_⟩) ?_ ?_
   rotate_left
   ·intro w'; go_simp; try with_reducible rfl
   rotate_left
   ·simp only [Act.put, sA, sB, sC]; rfl
   refine pure_ (i := 26) (N := some 62) (v := ?_) (a' := ?_) z105 rfl rfl (by kernel_rfl) (fun _ _ _ h => h) (Or.inl ⟨by rfl, ?_⟩) ?_ ?_
   rotate_left
   ·intro w'; go_simp; try with_reducible rfl
   rotate_left
   ·simp only [Act.put, sA, sB, sC]; rfl
   refine pure_ (i := 27) (N := some 63) (v := ?_) (a' := ?_) z106 rfl rfl (by kernel_rfl) (fun _ _ _ h => h) (Or.inl ⟨by rfl, ?_⟩) ?_ ?_
   rotate_left
   ·intro w'; go_simp; try with_reducible rfl
   rotate_left
   ·simp only [Act.put, sA, sB, sC]; rfl
   refine pure_ (i := 28) (N := some 64) (v := ?_) (a' := ?_) z107 rfl rfl (by kernel_rfl) (fun _ _ _ h => h) (Or.inl ⟨by rfl, ?_⟩) ?_ ?_
   rotate_left
   ·intro w'; go_simp; try with_reducible rfl
   rotate_left
   ·simp only [Act.put, sA, sB, sC]; rfl
   refine take_ (i := 29) (N := some 65) (v := ?_) (a' := ?_) z108 rfl rfl (by kernel_rfl) (fun _ _ _ h => h) (Or.inl ⟨by rfl, ?_⟩) hHeld ?_ ?_
   rotate_left
   ·rintro w' ⟨s0, s1, s2, s3⟩; go_simp; try with_reducible rfl
   rotate_left
   ·simp only [Act.put, sA, sB, sC]; rfl
   refine pure_ (i := 30) (N := some 66) (v := ?_) (a' := ?_) z109 rfl rfl (by kernel_rfl) (fun _ _ _ h => h) (Or.inl ⟨by rfl, ?_⟩) ?_ ?_
   rotate_left
   ·intro w'; go_simp; try with_reducible rfl
   rotate_left
   ·simp only [Act.put, sA, sB, sC]; rfl
   refine pure_ (i := 31) (N := some 67) (v := ?_) (a' := ?_) z110 rfl rfl (by kernel_rfl) (fun _ _ _ h => h) (Or.inl ⟨by rfl, ?_⟩) ?_ ?_
   rotate_left
   ·intro w'; go_simp; try with_reducible rfl
   rotate_left
   ·simp only [Act.put, sA, sB, sC]; rfl
   refine pure_ (i := 32) (N := some 68) (v := ?_) (a' := ?_) z111 rfl rfl (by kernel_rfl) (fun _ _ _ h => h) (Or.inl ⟨by rfl, ?_⟩) ?_ ?_
   rotate_left
   ·intro w'; go_simp; try with_reducible rfl
   rotate_left
   ·simp only [Act.put, sA, sB, sC]; rfl
   refine last_ (i := 33) (N := none) z112 rfl rfl (by kernel_rfl) (by decide) (fun K hK => ?_)
   refine skip_ (w1 := ?_) (by rfl) rfl ?_ ?_
   rotate_left
   ·go_simp; try rfl
   refine hK.out _ _ ?_
   clear hK K
   refine pure_ (i := 34) (N := some 69) (v := ?_) (a' := ?_) z113 rfl rfl (by kernel_rfl) (fun _ _ _ h => h) (Or.inl ⟨by rfl, ?_⟩) ?_ ?_
   rotate_left
   ·intro w'; go_simp; try with_reducible rfl
   rotate_left
   ·simp only [Act.put, sA, sB, sC]; rfl
   refine pure_ (i := 35) (N := some 70) (v := ?_) (a' := ?_) z114 rfl rfl (by kernel_rfl) (fun _ _ _ h => h) (Or.inl ⟨by rfl, ?_⟩) ?_ ?_
   rotate_left
   ·intro w'; go_simp; try with_reducible rfl
   rotate_left
   ·simp only [Act.put, sA, sB, sC]; rfl
   refine last_ (i := 36) (N := none) z115 rfl rfl (by kernel_rfl) (by decide) (fun K hK => ?_)
   refine skip_ (w1 := ?_) (by rfl) rfl ?_ ?_
   rotate_left
   ·go_simp; try rfl
   refine hK.out _ _ ?_
   clear hK K
   refine done_ (by kernel_rfl) ?_
   go_wp2_with fail
   go_ret2
   have hh := hst.out
   subst hqn hrn
   rw [e1, e2] at hh ⊢
   rw [l1] at hh
   exact ⟨_, _, rfl, hh.drewN 1⟩
 ·by_cases hr0 : rn = 0
  ·have e1 : (decide (qn ≠ 0) && (sx != sy)) = (sx != sy) := by simp [hq0]
   have e2 : (decide (rn ≠ 0) && sx) = false := by simp [hr0]
   have l1 : (0 : Int) < (digs WB qn).length := by have := hdq.2 hq0; omega
   have l2 : (digs WB rn).length = 0 := by omega
   rw [l2] at g2 ⊢
   refine start_ (n := 37) (S := fun W => W.cell? ⟨gz, oz + 1, none⟩ = some (.slice pq (digs WB qn).length kq) ∧ W.cell? ⟨gr, or_ + 1, none⟩ = some (.slice pr 0 kr) ∧ W.cell? ⟨gx, ox, none⟩ = some (.bool sx) ∧ W.cell? ⟨gy, oy, none⟩ = some (.bool sy)) (ds := [33, 36]) z78 (by kernel_rfl) rfl rfl ⟨g1, g2, g3, g4⟩ (fun hHeld => ?_)
   refine pure_ (i := 0) (N := some 36) (v := ?_) (a' := ?_) z79 rfl rfl (by kernel_rfl) (fun _ _ _ h => h) (Or.inl ⟨by rfl, ?_⟩) ?_ ?_
   rotate_left
   ·intro w'; go_simp; try with_reducible rfl
   rotate_left
   ·simp only [Act.put, sA, sB, sC]; rfl
   refine pure_ (i := 1) (N := some 37) (v := ?_) (a' := ?_) z80 rfl rfl (by kernel_rfl) (fun _ _ _ h => h) (Or.inl ⟨by rfl, ?_⟩) ?_ ?_
   rotate_left
   ·intro w'; go_simp; try with_reducible rfl
   rotate_left
   ·simp only [Act.put, sA, sB, sC]; rfl
   refine pure_ (i := 2) (N := some 38) (v := ?_) (a' := ?_) z81 rfl rfl (by kernel_rfl) (fun _ _ _ h => h) (Or.inl ⟨by rfl, ?_⟩) ?_ ?_
   rotate_left
   ·intro w'; go_simp; try with_reducible rfl
   rotate_left
   ·simp only [Act.put, sA, sB, sC]; rfl
   refine pure_ (i := 3) (N := some 39) (v := ?_) (a' := ?_) z82 rfl rfl (by kernel_rfl) (fun _ _ _ h => h) (Or.inl ⟨by rfl, ?_⟩) ?_ ?_
   rotate_left
   ·intro w'; go_simp; try with_reducible rfl
   rotate_left
   ·simp only [Act.put, sA, sB, sC]; rfl
   refine pure_ (i := 4) (N := some 40) (v := ?_) (a' := ?_) z83 rfl rfl (by kernel_rfl) (fun _ _ _ h => h) (Or.inl ⟨by rfl, ?_⟩) ?_ ?_
   rotate_left
   ·intro w'; go_simp; try with_reducible rfl
   rotate_left
   ·simp only [Act.put, sA, sB, sC]; rfl
   refine take_ (i := 5) (N := some 41) (v := ?_) (a' := ?_) z84 rfl rfl (by kernel_rfl) (fun _ _ _ h => h) (Or.inl ⟨by rfl, ?_⟩) hHeld ?_ ?_
   rotate_left
   ·rintro w' ⟨s0, s1, s2, s3⟩; go_simp; try with_reducible rfl
   rotate_left
   ·simp only [Act.put, sA, sB, sC]; rfl
   refine pure_ (i := 6) (N := some 42) (v := ?_) (a' := ?_) z85 rfl rfl (by kernel_rfl) (fun _ _ _ h => h) (Or.inl ⟨by rfl, ?_⟩) ?_ ?_
   rotate_left
   ·intro w'; go_simp; try with_reducible rfl
   rotate_left
   ·simp only [Act.put, sA, sB, sC]; rfl
   refine pure_ (i := 7) (N := some 43) (v := ?_) (a' := ?_) z86 rfl rfl (by kernel_rfl) (fun _ _ _ h => h) (Or.inl ⟨by rfl, ?_⟩) ?_ ?_
   rotate_left
   ·intro w'; go_simp; try with_reducible rfl
   rotate_left
   ·simp only [Act.put, sA, sB, sC]; rfl
   refine pure_ (i := 8) (N := some 44) (v := ?_) (a' := ?_) z87 rfl rfl (by kernel_rfl) (fun _ _ _ h => h) (Or.inl ⟨by rfl, ?_⟩) ?_ ?_
   rotate_left
   ·intro w'; go_simp; try with_reducible rfl
   rotate_left
   ·simp only [Act.put, sA, sB, sC]; rfl
   refine pure_ (i := 9) (N := some 45) (v := ?_) (a' := ?_) z88 rfl rfl (by kernel_rfl) (fun _ _ _ h => h) (Or.inl ⟨by rfl, ?_⟩) ?_ ?_
   rotate_left
   ·intro w'; go_simp; try with_reducible rfl
   rotate_left
   ·simp only [Act.put, sA, sB, sC]; rfl
   refine pure_ (i := 10) (N := some 46) (v := ?_) (a' := ?_) z89 rfl rfl (by kernel_rfl) (fun _ _ _ h => h) (Or.inl ⟨by rfl, ?_⟩) ?_ ?_
   rotate_left
   ·intro w'; go_simp; try with_reducible rfl
   rotate_left
   ·simp only [Act.put, sA, sB, sC]; rfl
   refine pure_ (i := 11) (N := some 47) (v := ?_) (a' := ?_) z90 rfl rfl (by kernel_rfl) (fun _ _ _ h => h) (Or.inl ⟨by rfl, ?_⟩) ?_ ?_
   rotate_left
   ·intro w'; go_simp; try with_reducible rfl
   rotate_left
   ·simp only [Act.put, sA, sB, sC]; rfl
   refine take_ (i := 12) (N := some 48) (v := ?_) (a' := ?_) z91 rfl rfl (by kernel_rfl) (fun _ _ _ h => h) (Or.inl ⟨by rfl, ?_⟩) hHeld ?_ ?_
   rotate_left
   ·rintro w' ⟨s0, s1, s2, s3⟩; go_simp; try with_reducible rfl
   rotate_left
   ·simp only [Act.put, sA, sB, sC]; rfl
   refine pure_ (i := 13) (N := some 49) (v := ?_) (a' := ?_) z92 rfl rfl (by kernel_rfl) (fun _ _ _ h => h) (Or.inl ⟨by rfl, ?_⟩) ?_ ?_
   rotate_left
   ·intro w'; go_simp; try with_reducible rfl
   rotate_left
   ·simp only [Act.put, sA, sB, sC]; rfl
   refine pure_ (i := 14) (N := some 50) (v := ?_) (a' := ?_) z93 rfl rfl (by kernel_rfl) (fun _ _ _ h => h) (Or.inl ⟨by rfl, ?_⟩) ?_ ?_
   rotate_left
   ·intro w'; go_simp; try with_reducible rfl
   rotate_left
   ·simp only [Act.put, sA, sB, sC]; rfl
   refine pure_ (i := 15) (N := some 51) (v := ?_) (a' := ?_) z94 rfl rfl (by kernel_rfl) (fun _ _ _ h => h) (Or.inl ⟨by rfl, ?_⟩) ?_ ?_
   rotate_left
   ·intro w'; go_simp; try with_reducible rfl
   rotate_left
   ·simp only [Act.put, sA, sB, sC]; rfl
   refine take_ (i := 16) (N := some 52) (v := ?_) (a' := ?_) z95 rfl rfl (by kernel_rfl) (fun _ _ _ h => h) (Or.inl ⟨by rfl, ?_⟩) hHeld ?_ ?_
   rotate_left
   ·rintro w' ⟨s0, s1, s2, s3⟩; go_simp; try with_reducible rfl
   rotate_left
   ·simp only [Act.put, sA, sB, sC]; rfl
   refine pure_ (i := 17) (N := some 53) (v := ?_) (a' := ?_) z96 rfl rfl (by kernel_rfl) (fun _ _ _ h => h) (Or.inl ⟨by rfl, ?_⟩) ?_ ?_
   rotate_left
   ·intro w'; go_simp; try with_reducible rfl
   rotate_left
   ·simp only [Act.put, sA, sB, sC]; rfl
   refine pure_ (i := 18) (N := some 54) (v := ?_) (a' := ?_) z97 rfl rfl (by kernel_rfl) (fun _ _ _ h => h) (Or.inl ⟨by rfl, ?_⟩) ?_ ?_
   rotate_left
   ·intro w'; go_simp; try with_reducible rfl
   rotate_left
   ·simp only [Act.put, sA, sB, sC]; rfl
   refine pure_ (i := 19) (N := some 55) (v := ?_) (a' := ?_) z98 rfl rfl (by kernel_rfl) (fun _ _ _ h => h) (Or.inl ⟨by rfl, ?_⟩) ?_ ?_
   rotate_left
   ·intro w'; go_simp; try with_reducible rfl
   rotate_left
   ·simp only [Act.put, sA, sB, sC]; rfl
   refine pure_ (i := 20) (N := some 56) (v := ?_) (a' := ?_) z99 rfl rfl (by kernel_rfl) (fun _ _ _ h => h) (Or.inl ⟨by rfl, ?_⟩) ?_ ?_
   rotate_left
   ·intro w'; go_simp; try with_reducible rfl
   rotate_left
   ·simp only [Act.put, sA, sB, sC]; rfl
   refine pure_ (i := 21) (N := some 57) (v := ?_) (a' := ?_) z100 rfl rfl (by kernel_rfl) (fun _ _ _ h => h) (Or.inl ⟨by rfl, ?_⟩) ?_ ?_
   rotate_left
   ·intro w'; go_simp; try with_reducible rfl
   rotate_left
   ·simp only [Act.put, sA, sB, sC]; rfl
   refine take_ (i := 22) (N := some 58) (v := ?_) (a' := ?_) z101 rfl rfl (by kernel_rfl) (fun _ _ _ h => h) (Or.inl ⟨by rfl, ?_⟩) hHeld ?_ ?_
   rotate_left
   ·rintro w' ⟨s0, s1, s2, s3⟩; go_simp; try with_reducible rfl
   rotate_left
   ·simp only [Act.put, sA, sB, sC]; rfl
   refine pure_ (i := 23) (N := some 59) (v := ?_) (a' := ?_) z102 rfl rfl (by kernel_rfl) (fun _ _ _ h => h) (Or.inl ⟨by rfl, ?_⟩) ?_ ?_
   rotate_left
   ·intro w'; go_simp; try with_reducible rfl
   rotate_left
   ·simp only [Act.put, sA, sB, sC]; rfl
   refine pure_ (i := 24) (N := some 60) (v := ?_) (a' := ?_) z103 rfl rfl (by kernel_rfl) (fun _ _ _ h => h) (Or.inl ⟨by rfl, ?_⟩) ?_ ?_
   rotate_left
   ·intro w'; go_simp; try with_reducible rfl
   rotate_left
   ·simp only [Act.put, sA, sB, sC]; rfl
   refine pure_ (i := 25) (N := some 61) (v := ?_) (a' := ?_) z104 rfl rfl (by kernel_rfl) (fun _ _ _ h => h) (Or.inl ⟨by rfl, ?_⟩) ?_ ?_
   rotate_left
   ·intro w'; go_simp; try with_reducible rfl
   rotate_left
   ·simp only [Act.put, sA, sB, sC]; rfl
   refine pure_ (i := 26) (N := some 62) (v := undef) (a' := ?_) z105 rfl rfl (by kernel_rfl) (fun _ _ _ h => h) (Or.inr ⟨by rfl, rfl⟩) ?_ ?_
   rotate_left
   ·simp only [Act.put, sA, sB, sC]; rfl
   refine pure_ (i := 27) (N := some 63) (v := undef) (a' := ?_) z106 rfl rfl (by kernel_rfl) (fun _ _ _ h => h) (Or.inr ⟨by rfl, rfl⟩) ?_ ?_
   rotate_left
   ·simp only [Act.put, sA, sB, sC]; rfl
   refine pure_ (i := 28) (N := some 64) (v := undef) (a' := ?_) z107 rfl rfl (by kernel_rfl) (fun _ _ _ h => h) (Or.inr ⟨by rfl, rfl⟩) ?_ ?_
   rotate_left
   ·simp only [Act.put, sA, sB, sC]; rfl
   refine pure_ (i := 29) (N := some 65) (v := undef) (a' := ?_) z108 rfl rfl (by kernel_rfl) (fun _ _ _ h => h) (Or.inr ⟨by rfl, rfl⟩) ?_ ?_
   rotate_left
   ·simp only [Act.put, sA, sB, sC]; rfl
   refine pure_ (i := 30) (N := some 66) (v := ?_) (a' := ?_) z109 rfl rfl (by kernel_rfl) (fun _ _ _ h => h) (Or.inl ⟨by rfl, ?_⟩) ?_ ?_
   rotate_left
   ·intro w'; go_simp; try with_reducible rfl
   rotate_left
   ·simp only [Act.put, sA, sB, sC]; rfl
   refine pure_ (i := 31) (N := some 67) (v := ?_) (a' := ?_) z110 rfl rfl (by kernel_rfl) (fun _ _ _ h => h) (Or.inl ⟨by rfl, ?_⟩) ?_ ?_
   rotate_left
   ·intro w'; go_simp; try with_reducible rfl
   rotate_left
   ·simp only [Act.put, sA, sB, sC]; rfl
   refine pure_ (i := 32) (N := some 68) (v := ?_) (a' := ?_) z111 rfl rfl (by kernel_rfl) (fun _ _ _ h => h) (Or.inl ⟨by rfl, ?_⟩) ?_ ?_
   rotate_left
   ·intro w'; go_simp; try with_reducible rfl
   rotate_left
   ·simp only [Act.put, sA, sB, sC]; rfl
   refine last_ (i := 33) (N := none) z112 rfl rfl (by kernel_rfl) (by decide) (fun K hK => ?_)
   refine skip_ (w1 := ?_) (by rfl) rfl ?_ ?_
   rotate_left
   ·go_simp; try rfl
   refine hK.out _ _ ?_
   clear hK K
   refine pure_ (i := 34) (N := some 69) (v := ?_) (a' := ?_) z113 rfl rfl (by kernel_rfl) (fun _ _ _ h => h) (Or.inl ⟨by rfl, ?_⟩) ?_ ?_
   rotate_left
   ·intro w'; go_simp; try with_reducible rfl
   rotate_left
   ·simp only [Act.put, sA, sB, sC]; rfl
   refine pure_ (i := 35) (N := some 70) (v := ?_) (a' := ?_) z114 rfl rfl (by kernel_rfl) (fun _ _ _ h => h) (Or.inl ⟨by rfl, ?_⟩) ?_ ?_
   rotate_left
   ·intro w'; go_simp; try with_reducible rfl
   rotate_left
   ·simp only [Act.put, sA, sB, sC]; rfl
   refine last_ (i := 36) (N := none) z115 rfl rfl (by kernel_rfl) (by decide) (fun K hK => ?_)
   refine skip_ (w1 := ?_) (by rfl) rfl ?_ ?_
   rotate_left
   ·go_simp; try rfl
   refine hK.out _ _ ?_
   clear hK K
   refine done_ (by kernel_rfl) ?_
   go_wp2_with fail
   go_ret2
   have hh := hst.out
   subst hqn hrn
   rw [e1, e2] at hh ⊢
   rw [l2] at hh
   exact ⟨_, _, rfl, hh.drewN 1⟩
  ·have e1 : (decide (qn ≠ 0) && (sx != sy)) = (sx != sy) := by simp [hq0]
   have e2 : (decide (rn ≠ 0) && sx) = sx := by simp [hr0]
   have l1 : (0 : Int) < (digs WB qn).length := by have := hdq.2 hq0; omega
   have l2 : (0 : Int) < (digs WB rn).length := by have := hdr.2 hr0; omega
   refine start_ (n := 37) (S := fun W => W.cell? ⟨gz, oz + 1, none⟩ = some (.slice pq (digs WB qn).length kq) ∧ W.cell? ⟨gr, or_ + 1, none⟩ = some (.slice pr (digs WB rn).length kr) ∧ W.cell? ⟨gx, ox, none⟩ = some (.bool sx) ∧ W.cell? ⟨gy, oy, none⟩ = some (.bool sy)) (ds := [33, 36]) z78 (by kernel_rfl) rfl rfl ⟨g1, g2, g3, g4⟩ (fun hHeld => ?_)
   refine pure_ (i := 0) (N := some 36) (v := ?_) (a' := ?_) z79 rfl rfl (by kernel_rfl) (fun _ _ _ h => h) (Or.inl ⟨by rfl, ?_⟩) ?_ ?_
   rotate_left
   ·intro w'; go_simp; try with_reducible rfl
   rotate_left
   ·simp only [Act.put, sA, sB, sC]; rfl
   refine pure_ (i := 1) (N := some 37) (v := ?_) (a' := ?_) z80 rfl rfl (by kernel_rfl) (fun _ _ _ h => h) (Or.inl ⟨by rfl, ?_⟩) ?_ ?_
   rotate_left
   ·intro w'; go_simp; try with_reducible rfl
   rotate_left
   ·simp only [Act.put, sA, sB, sC]; rfl
   refine pure_ (i := 2) (N := some 38) (v := ?_) (a' := ?_) z81 rfl rfl (by kernel_rfl) (fun _ _ _ h => h) (Or.inl ⟨by rfl, ?_⟩) ?_ ?_
   rotate_left
   ·intro w'; go_simp; try with_reducible rfl
   rotate_left
   ·simp only [Act.put, sA, sB, sC]; rfl
   refine pure_ (i := 3) (N := some 39) (v := ?_) (a' := ?_) z82 rfl rfl (by kernel_rfl) (fun _ _ _ h => h) (Or.inl ⟨by rfl, ?_⟩) ?_ ?_
   rotate_left
   ·intro w'; go_simp; try with_reducible rfl
   rotate_left
   ·simp only [Act.put, sA, sB, sC]; rfl
   refine pure_ (i := 4) (N := some 40) (v := ?_) (a' := ?_) z83 rfl rfl (by kernel_rfl) (fun _ _ _ h => h) (Or.inl ⟨by rfl, ?_⟩) ?_ ?_
   rotate_left
   ·intro w'; go_simp; try with_reducible rfl
   rotate_left
   ·simp only [Act.put, sA, sB, sC]; rfl
   refine take_ (i := 5) (N := some 41) (v := ?_) (a' := ?_) z84 rfl rfl (by kernel_rfl) (fun _ _ _ h => h) (Or.inl ⟨by rfl, ?_⟩) hHeld ?_ ?_
   rotate_left
   ·rintro w' ⟨s0, s1, s2, s3⟩; go_simp; try with_reducible rfl
   rotate_left
   ·simp only [Act.put, sA, sB, sC]; rfl
   refine pure_ (i := 6) (N := some 42) (v := ?_) (a' := ?_) z85 rfl rfl (by kernel_rfl) (fun _ _ _ h => h) (Or.inl ⟨by rfl, ?_⟩) ?_ ?_
   rotate_left
   ·intro w'; go_simp; try with_reducible rfl
   rotate_left
   ·simp only [Act.put, sA, sB, sC]; rfl
   refine pure_ (i := 7) (N := some 43) (v := ?_) (a' := ?_) z86 rfl rfl (by kernel_rfl) (fun _ _ _ h => h) (Or.inl ⟨by rfl, ?_⟩) ?_ ?_
   rotate_left
   ·intro w'; go_simp; try with_reducible rfl
   rotate_left
   ·simp only [Act.put, sA, sB, sC]; rfl
   refine pure_ (i := 8) (N := some 44) (v := ?_) (a' := ?_) z87 rfl rfl (by kernel_rfl) (fun _ _ _ h => h) (Or.inl ⟨by rfl, ?_⟩) ?_ ?_
   rotate_left
   ·intro w'; go_simp; try with_reducible rfl
   rotate_left
   ·simp only [Act.put, sA, sB, sC]; rfl
   refine pure_ (i := 9) (N := some 45) (v := ?_) (a' := ?_) z88 rfl rfl (by kernel_rfl) (fun _ _ _ h => h) (Or.inl ⟨by rfl, ?_⟩) ?_ ?_
   rotate_left
   ·intro w'; go_simp; try with_reducible rfl
   rotate_left
   ·simp only [Act.put, sA, sB, sC]; rfl
   refine pure_ (i := 10) (N := some 46) (v := ?_) (a' := ?_) z89 rfl rfl (by kernel_rfl) (fun _ _ _ h => h) (Or.inl ⟨by rfl, ?_⟩) ?_ ?_
   rotate_left
   ·intro w'; go_simp; try with_reducible rfl
   rotate_left
   ·simp only [Act.put, sA, sB, sC]; rfl
   refine pure_ (i := 11) (N := some 47) (v := ?_) (a' := ?_) z90 rfl rfl (by kernel_rfl) (fun _ _ _ h => h) (Or.inl ⟨by rfl, ?_⟩) ?_ ?_
   rotate_left
   ·intro w'; go_simp; try with_reducible rfl
   rotate_left
   ·simp only [Act.put, sA, sB, sC]; rfl
   refine take_ (i := 12) (N := some 48) (v := ?_) (a' := ?_) z91 rfl rfl (by kernel_rfl) (fun _ _ _ h => h) (Or.inl ⟨by rfl, ?_⟩) hHeld ?_ ?_
   rotate_left
   ·rintro w' ⟨s0, s1, s2, s3⟩; go_simp; try with_reducible rfl
   rotate_left
   ·simp only [Act.put, sA, sB, sC]; rfl
   refine pure_ (i := 13) (N := some 49) (v := ?_) (a' := ?_) z92 rfl rfl (by kernel_rfl) (fun _ _ _ h => h) (Or.inl ⟨by rfl, ?_⟩) ?_ ?_
   rotate_left
   ·intro w'; go_simp; try with_reducible rfl
   rotate_left
   ·simp only [Act.put, sA, sB, sC]; rfl
   refine pure_ (i := 14) (N := some 50) (v := ?_) (a' := ?_) z93 rfl rfl (by kernel_rfl) (fun _ _ _ h => h) (Or.inl ⟨by rfl, ?_⟩) ?_ ?_
   rotate_left
   ·intro w'; go_simp; try with_reducible rfl
   rotate_left
   ·simp only [Act.put, sA, sB, sC]; rfl
   refine pure_ (i := 15) (N := some 51) (v := ?_) (a' := ?_) z94 rfl rfl (by kernel_rfl) (fun _ _ _ h => h) (Or.inl ⟨by rfl, ?_⟩) ?_ ?_
   rotate_left
   ·intro w'; go_simp; try with_reducible rfl
   rotate_left
   ·simp only [Act.put, sA, sB, sC]; rfl
   refine take_ (i := 16) (N := some 52) (v := ?_) (a' := ?_) z95 rfl rfl (by kernel_rfl) (fun _ _ _ h => h) (Or.inl ⟨by rfl, ?_⟩) hHeld ?_ ?_
   rotate_left
   ·rintro w' ⟨s0, s1, s2, s3⟩; go_simp; try with_reducible rfl
   rotate_left
   ·simp only [Act.put, sA, sB, sC]; rfl
   refine pure_ (i := 17) (N := some 53) (v := ?_) (a' := ?_) z96 rfl rfl (by kernel_rfl) (fun _ _ _ h => h) (Or.inl ⟨by rfl, ?_⟩) ?_ ?_
   rotate_left
   ·intro w'; go_simp; try with_reducible rfl
   rotate_left
   ·simp only [Act.put, sA, sB, sC]; rfl
   refine pure_ (i := 18) (N := some 54) (v := ?_) (a' := ?_) z97 rfl rfl (by kernel_rfl) (fun _ _ _ h => h) (Or.inl ⟨by rfl, ?_⟩) ?_ ?_
   rotate_left
   ·intro w'; go_simp; try with_reducible rfl
   rotate_left
   ·simp only [Act.put, sA, sB, sC]; rfl
   refine pure_ (i := 19) (N := some 55) (v := ?_) (a' := ?_) z98 rfl rfl (by kernel_rfl) (fun _ _ _ h => h) (Or.inl ⟨by rfl, ?_⟩) ?_ ?_
   rotate_left
   ·intro w'; go_simp; try with_reducible rfl
   rotate_left
   ·simp only [Act.put, sA, sB, sC]; rfl
   refine pure_ (i := 20) (N := some 56) (v := ?_) (a' := ?_) z99 rfl rfl (by kernel_rfl) (fun _ _ _ h => h) (Or.inl ⟨by rfl, ?_⟩) ?_ ?_
   rotate_left
   ·intro w'; go_simp; try with_reducible rfl
   rotate_left
   ·simp only [Act.put, sA, sB, sC]; rfl
   refine pure_ (i := 21) (N := some 57) (v := ?_) (a' := ?_) z100 rfl rfl (by kernel_rfl) (fun _ _ _ h => h) (Or.inl ⟨by rfl, ?_⟩) ?_ ?_
   rotate_left
   ·intro w'; go_simp; try with_reducible rfl
   rotate_left
   ·simp only [Act.put, sA, sB, sC]; rfl
   refine take_ (i := 22) (N := some 58) (v := ?_) (a' := ?_) z101 rfl rfl (by kernel_rfl) (fun _ _ _ h => h) (Or.inl ⟨by rfl, ?_⟩) hHeld ?_ ?_
   rotate_left
   ·rintro w' ⟨s0, s1, s2, s3⟩; go_simp; try with_reducible rfl
   rotate_left
   ·simp only [Act.put, sA, sB, sC]; rfl
   refine pure_ (i := 23) (N := some 59) (v := ?_) (a' := ?_) z102 rfl rfl (by kernel_rfl) (fun _ _ _ h => h) (Or.inl ⟨by rfl, ?_⟩) ?_ ?_
   rotate_left
   ·intro w'; go_simp; try with_reducible rfl
   rotate_left
   ·simp only [Act.put, sA, sB, sC]; rfl
   refine pure_ (i := 24) (N := some 60) (v := ?_) (a' := ?_) z103 rfl rfl (by kernel_rfl) (fun _ _ _ h => h) (Or.inl ⟨by rfl, ?_⟩) ?_ ?_
   rotate_left
   ·intro w'; go_simp; try with_reducible rfl
   rotate_left
   ·simp only [Act.put, sA, sB, sC]; rfl
   refine pure_ (i := 25) (N := some 61) (v := ?_) (a' := ?_) z104 rfl rfl (by kernel_rfl) (fun _ _ _ h => h) (Or.inl ⟨by rfl, ?_⟩) ?_ ?_
   rotate_left
   ·intro w'; go_simp; try with_reducible rfl
   rotate_left
   ·simp only [Act.put, sA, sB, sC]; rfl
   refine pure_ (i := 26) (N := some 62) (v := ?_) (a' := ?_) z105 rfl rfl (by kernel_rfl) (fun _ _ _ h => h) (Or.inl ⟨by rfl, ?_⟩) ?_ ?_
   rotate_left
   ·intro w'; go_simp; try with_reducible rfl
   rotate_left
   ·simp only [Act.put, sA, sB, sC]; rfl
   refine pure_ (i := 27) (N := some 63) (v := ?_) (a' := ?_) z106 rfl rfl (by kernel_rfl) (fun _ _ _ h => h) (Or.inl ⟨by rfl, ?_⟩) ?_ ?_
   rotate_left
   ·intro w'; go_simp; try with_reducible rfl
   rotate_left
   ·simp only [Act.put, sA, sB, sC]; rfl
   refine pure_ (i := 28) (N := some 64) (v := ?_) (a' := ?_) z107 rfl rfl (by kernel_rfl) (fun _ _ _ h => h) (Or.inl ⟨by rfl, ?_⟩) ?_ ?_
   rotate_left
   ·intro w'; go_simp; try with_reducible rfl
   rotate_left
   ·simp only [Act.put, sA, sB, sC]; rfl
   refine take_ (i := 29) (N := some 65) (v := ?_) (a' := ?_) z108 rfl rfl (by kernel_rfl) (fun _ _ _ h => h) (Or.inl ⟨by rfl, ?_⟩) hHeld ?_ ?_
   rotate_left
   ·rintro w' ⟨s0, s1, s2, s3⟩; go_simp; try with_reducible rfl
   rotate_left
   ·simp only [Act.put, sA, sB, sC]; rfl
   refine pure_ (i := 30) (N := some 66) (v := ?_) (a' := ?_) z109 rfl rfl (by kernel_rfl) (fun _ _ _ h => h) (Or.inl ⟨by rfl, ?_⟩) ?_ ?_
   rotate_left
   ·intro w'; go_simp; try with_reducible rfl
   rotate_left
   ·simp only [Act.put, sA, sB, sC]; rfl
   refine pure_ (i := 31) (N := some 67) (v := ?_) (a' := ?_) z110 rfl rfl (by kernel_rfl) (fun _ _ _ h => h) (Or.inl ⟨by rfl, ?_⟩) ?_ ?_
   rotate_left
   ·intro w'; go_simp; try with_reducible rfl
   rotate_left
   ·simp only [Act.put, sA, sB, sC]; rfl
   refine pure_ (i := 32) (N := some 68) (v := ?_) (a' := ?_) z111 rfl rfl (by kernel_rfl) (fun _ _ _ h => h) (Or.inl ⟨by rfl, ?_⟩) ?_ ?_
   rotate_left
   ·intro w'; go_simp; try with_reducible rfl
   rotate_left
   ·simp only [Act.put, sA, sB, sC]; rfl
   refine last_ (i := 33) (N := none) z112 rfl rfl (by kernel_rfl) (by decide) (fun K hK => ?_)
   refine skip_ (w1 := ?_) (by rfl) rfl ?_ ?_
   rotate_left
   ·go_simp; try rfl
   refine hK.out _ _ ?_
   clear hK K
   refine pure_ (i := 34) (N := some 69) (v := ?_) (a' := ?_) z113 rfl rfl (by kernel_rfl) (fun _ _ _ h => h) (Or.inl ⟨by rfl, ?_⟩) ?_ ?_
   rotate_left
   ·intro w'; go_simp; try with_reducible rfl
   rotate_left
   ·simp only [Act.put, sA, sB, sC]; rfl
   refine pure_ (i := 35) (N := some 70) (v := ?_) (a' := ?_) z114 rfl rfl (by kernel_rfl) (fun _ _ _ h => h) (Or.inl ⟨by rfl, ?_⟩) ?_ ?_
   rotate_left
   ·intro w'; go_simp; try with_reducible rfl
   rotate_left
   ·simp only [Act.put, sA, sB, sC]; rfl
   refine last_ (i := 36) (N := none) z115 rfl rfl (by kernel_rfl) (by decide) (fun K hK => ?_)
   refine skip_ (w1 := ?_) (by rfl) rfl ?_ ?_
   rotate_left
   ·go_simp; try rfl
   refine hK.out _ _ ?_
   clear hK K
   refine done_ (by kernel_rfl) ?_
   go_wp2_with fail
   go_ret2
   have hh := hst.out
   subst hqn hrn
   rw [e1, e2] at hh ⊢
   exact ⟨_, _, rfl, hh.drewN 1⟩
end Go.Proofs.YthocmhkafgpgbaaGreatDoor
