/- Integers whose words are a row that is not trimmed: the sum, the words. -/
import Derived.Test.YthocmhkafgpgbaaGreatDoorM15
set_option linter.unusedVariables false
set_option linter.unusedSimpArgs false
namespace Go.Proofs.YthocmhkafgpgbaaGreatDoor
open Go.RowKit
open Go.Proofs.YthocmhkafgpgbaaGreatDoorW.PrintLast
structure IntRow (w : World) (base g o : Nat) (s : Bool) (v : Value) (xs : List Nat) : Prop where
 known : Known w g
 neg : w.cell? ⟨g, o, none⟩ = some (.bool s)
 abs : w.cell? ⟨g, o + 1, none⟩ = some v
 nat : NatRow w base v xs
theorem IntAt.row {w : World} {base g o n : Nat} {s : Bool} {v : Value} (h : IntAt w base g o s v n) : IntRow w base g o s v (digs WB n) := ⟨h.known, h.neg, h.abs, h.nat⟩
theorem IntRow.kept {w w' : World} {T : Nat → Prop} {base g o : Nat} {s : Bool} {v : Value} {xs : List Nat} (h : IntRow w base g o s v xs) (hk : Keeps T w w') (hg : ¬ T g) (hv : ∀ k, v.ownBlock = some k → ¬ T k) : IntRow w' base g o s v xs :=
 ⟨h.known.keeps hk hg, hk.cellS h.neg hg, hk.cellS h.abs hg, h.nat.kept hk hv⟩
theorem IntRow.store {w w1 : World} {base g o n' : Nat} {s : Bool} {zv v' : Value} {zs : List Nat} (hz : IntRow w base g o s zv zs) (ho : NatOut w w1 base zv v' (digs WB n')) (s' : Bool) :
  IntOut w ((w1.setCell ⟨g, o + 1, none⟩ v').setCell ⟨g, o, none⟩ (.bool s')) base g o zv s' v' n' := by
 have ha := NatRow.apart hz.nat hz.neg
 have hg : ¬ zv.ownBlock = some g := ha
 have hk1 := hz.known.keeps ho.keep hg
 have c0 := ho.keep.cellS hz.neg hg
 have c1 := ho.keep.cellS hz.abs hg
 have hv' : v'.ownBlock ≠ some g := fun e => by
  rcases ho.own g e with h | h
  ·exact ha h
  ·have := hz.known.lt; omega
 have kk : Keeps (fun k => k = g ∨ zv.ownBlock = some k) w ((w1.setCell ⟨g, o + 1, none⟩ v').setCell ⟨g, o, none⟩ (.bool s')) :=
  ((ho.keep.mono (fun _ _ h => .inr h)).setCell _ _ (fun _ => .inl rfl)).setCell _ _ (fun _ => .inl rfl)
 have k2 : Keeps (fun k => k = g) w1 ((w1.setCell ⟨g, o + 1, none⟩ v').setCell ⟨g, o, none⟩ (.bool s')) :=
  ((Keeps.refl (fun k => k = g) w1).setCell _ _ (fun _ => rfl)).setCell _ _ (fun _ => rfl)
 have e0 : (w1.setCell ⟨g, o + 1, none⟩ v').cell? ⟨g, o, none⟩ = some (.bool s) := (cell_set_ne (by simp) _).trans c0
 refine ⟨⟨(hk1.setCell _ _ _).setCell _ _ _, cell_set_same e0 _, ?_, ho.row.kept k2 (fun k hk e => hv' (by rw [hk, e]))⟩, kk, ho.own, fun i h1 h2 => ?_⟩
 ·rw [cell_set_ne (by simp)]; exact cell_set_same c1 _
 ·rw [cell_set_ne (by simp [h1]), cell_set_ne (by simp [h2])]
  exact ho.keep.cell (a := ⟨g, i, none⟩) hz.known.lt hg
theorem IntRow.mid {w w1 : World} {base bx gz oz gx ox : Nat} {sz sx : Bool} {zv xv v' : Value} {xs zs ys : List Nat} (hz : IntRow w base gz oz sz zv zs) (hx : IntRow w bx gx ox sx xv ys) (ho : NatOut w w1 base zv v' xs) : Mid w1 gz oz gx ox zv xv v' sx := by
 have hk := ho.keep
 have hg : ¬ zv.ownBlock = some gz := NatRow.apart hz.nat hz.neg
 have hgx : ¬ zv.ownBlock = some gx := NatRow.apart hz.nat hx.neg
 have kn := hz.known.keeps (T := fun k => zv.ownBlock = some k) hk hg
 have d1 := hk.cellS hz.abs hg
 have d0 := hk.cellS hz.neg hg
 have dx := hk.cellS hx.neg hgx
 have hne1 : (⟨gx, ox, none⟩ : Addr) ≠ ⟨gz, oz + 1, none⟩ := fun e => by
  rw [e, d1] at dx
  obtain ⟨p, c, rfl⟩ := NatRow.form hz.nat
  simp at dx
 have kx := kn.setCell gz (oz + 1) v'
 exact ⟨kn.frozen _, d1, hk.cellS hx.abs hgx, kx.frozen _, ⟨_, (cell_set_ne (by simp) _).trans d0⟩, (cell_set_ne hne1 _).trans dx, cell_set_same d1 _⟩
set_option maxRecDepth 100000 in
theorem intBits_any (w : World) (base g o : Nat) (s : Bool) (v : Value) (xs : List Nat) (h : IntRow w base g o s v xs) : Calls Tryz.prog 230 #[.pointer (some ⟨g, o, none⟩)] w fun e w' => e = .returned v ∧ w' = w := by
 obtain ⟨p, c, rfl⟩ := NatRow.form h.nat
 have c1 := h.abs
 clear h
 go_enter Tryz.func230, Tryz.ntmps230
 go_wp2_with fail
 go_ret
 exact ⟨rfl, rfl⟩
set_option maxRecDepth 100000 in
set_option maxHeartbeats 1000000 in
theorem intAdd_raw (w : World) (base by_ gz oz gy oy ny : Nat) (zv yv : Value) (xs : List Nat) (hz : IntRow w base gz oz false zv xs) (hy : IntAt w by_ gy oy false yv ny) (hB : base ≤ w.heap.size) (hl : xs.length ≤ 10000) (hl' : (digs WB ny).length ≤ 10000) (hy0 : ny ≠ 0) :
  Calls Tryz.prog 226 #[.pointer (some ⟨gz, oz, none⟩), .pointer (some ⟨gz, oz, none⟩), .pointer (some ⟨gy, oy, none⟩)] w fun e w' => ∃ v', e = .returned (.pointer (some ⟨gz, oz, none⟩)) ∧ IntOut w w' base gz oz zv false v' (val WB xs + ny) := by
 have hpos := (digs_len_pos WB_one (n := ny)).2 hy0
 have hS0 := add_any w.drew.drew base base by_ zv zv yv xs xs (digs WB ny) hz.nat hz.nat hy.nat hB hl hl' (fun h => by rw [h] at hpos; simp at hpos) (fun _ => by rw [val_digs WB_one])
 rw [val_digs WB_one] at hS0
 have hS := Lib.hid hS0
 have c0 := hz.neg
 have c1 := hz.abs
 have d0 := hy.neg
 have d1 := hy.abs
 have hM := Lib.hid (fun (w1 : World) (v' : Value) (ho : NatOut w.drew.drew w1 base zv v' (digs WB (val WB xs + ny))) => And.intro (And.intro (hz.mid hz ho.undrew.undrew) (hz.mid hy.row ho.undrew.undrew)) (hz.store ho.undrew.undrew false))
 have hd := (digs_len_pos WB_one (n := val WB xs + ny)).2 (by omega)
 have t0 : (0 : Int) < (digs WB (val WB xs + ny)).length := by omega
 generalize val WB xs + ny = n at *
 clear hz hy hS0 hy0 hpos
 go_enter Tryz.func226, Tryz.ntmps226
 go_wp2_with fail
 go_region
 all_goals (go_wp2_with fail)
 refine start_ (n := 17) (S := fun W => W.cell? ⟨gz, oz + 1, none⟩ = some zv ∧ W.cell? ⟨gy, oy + 1, none⟩ = some yv) (ds := [13, 16]) z0 (by kernel_rfl) rfl rfl ⟨c1, d1⟩ (fun hHeld => ?_)
 refine pure_ (i := 0) (N := some 21) (v := ?_) (a' := ?_) z1 rfl rfl (by kernel_rfl) (fun _ _ _ h => h) (Or.inl ⟨by rfl, ?_⟩) ?_ ?_
 rotate_left
 ·intro w'; go_simp; try with_reducible rfl
 rotate_left
 ·simp only [Act.put, sA, sB, sC]; rfl
 refine pure_ (i := 1) (N := some 22) (v := ?_) (a' := ?_) z2 rfl rfl (by kernel_rfl) (fun _ _ _ h => h) (Or.inl ⟨by rfl, ?_⟩) ?_ ?_
 rotate_left
 ·intro w'; go_simp; try with_reducible rfl
 rotate_left
 ·simp only [Act.put, sA, sB, sC]; rfl
 refine pure_ (i := 2) (N := some 23) (v := ?_) (a' := ?_) z3 rfl rfl (by kernel_rfl) (fun _ _ _ h => h) (Or.inl ⟨by rfl, ?_⟩) ?_ ?_
 rotate_left
 ·intro w'; go_simp; try with_reducible rfl
 rotate_left
 ·simp only [Act.put, sA, sB, sC]; rfl
 refine pure_ (i := 3) (N := some 24) (v := ?_) (a' := ?_) z4 rfl rfl (by kernel_rfl) (fun _ _ _ h => h) (Or.inl ⟨by rfl, ?_⟩) ?_ ?_
 rotate_left
 ·intro w'; go_simp; try with_reducible rfl
 rotate_left
 ·simp only [Act.put, sA, sB, sC]; rfl
 refine take_ (i := 4) (N := some 25) (v := ?_) (a' := ?_) z5 rfl rfl (by kernel_rfl) (fun _ _ _ h => h) (Or.inl ⟨by rfl, ?_⟩) hHeld ?_ ?_
 rotate_left
 ·rintro w' ⟨s0, s1⟩; go_simp; try with_reducible rfl
 rotate_left
 ·simp only [Act.put, sA, sB, sC]; rfl
 refine pure_ (i := 5) (N := some 26) (v := ?_) (a' := ?_) z6 rfl rfl (by kernel_rfl) (fun _ _ _ h => h) (Or.inl ⟨by rfl, ?_⟩) ?_ ?_
 rotate_left
 ·intro w'; go_simp; try with_reducible rfl
 rotate_left
 ·simp only [Act.put, sA, sB, sC]; rfl
 refine pure_ (i := 6) (N := some 27) (v := ?_) (a' := ?_) z7 rfl rfl (by kernel_rfl) (fun _ _ _ h => h) (Or.inl ⟨by rfl, ?_⟩) ?_ ?_
 rotate_left
 ·intro w'; go_simp; try with_reducible rfl
 rotate_left
 ·simp only [Act.put, sA, sB, sC]; rfl
 refine pure_ (i := 7) (N := some 28) (v := ?_) (a' := ?_) z8 rfl rfl (by kernel_rfl) (fun _ _ _ h => h) (Or.inl ⟨by rfl, ?_⟩) ?_ ?_
 rotate_left
 ·intro w'; go_simp; try with_reducible rfl
 rotate_left
 ·simp only [Act.put, sA, sB, sC]; rfl
 refine take_ (i := 8) (N := some 29) (v := ?_) (a' := ?_) z9 rfl rfl (by kernel_rfl) (fun _ _ _ h => h) (Or.inl ⟨by rfl, ?_⟩) hHeld ?_ ?_
 rotate_left
 ·rintro w' ⟨s0, s1⟩; go_simp; try with_reducible rfl
 rotate_left
 ·simp only [Act.put, sA, sB, sC]; rfl
 refine pure_ (i := 9) (N := some 30) (v := ?_) (a' := ?_) z10 rfl rfl (by kernel_rfl) (fun _ _ _ h => h) (Or.inl ⟨by rfl, ?_⟩) ?_ ?_
 rotate_left
 ·intro w'; go_simp; try with_reducible rfl
 rotate_left
 ·simp only [Act.put, sA, sB, sC]; rfl
 refine pure_ (i := 10) (N := some 31) (v := ?_) (a' := ?_) z11 rfl rfl (by kernel_rfl) (fun _ _ _ h => h) (Or.inl ⟨by rfl, ?_⟩) ?_ ?_
 rotate_left
 ·intro w'; go_simp; try with_reducible rfl
 rotate_left
 ·simp only [Act.put, sA, sB, sC]; rfl
 refine pure_ (i := 11) (N := some 32) (v := ?_) (a' := ?_) z12 rfl rfl (by kernel_rfl) (fun _ _ _ h => h) (Or.inl ⟨by rfl, ?_⟩) ?_ ?_
 rotate_left
 ·intro w'; go_simp; try with_reducible rfl
 rotate_left
 ·simp only [Act.put, sA, sB, sC]; rfl
 refine take_ (i := 12) (N := some 33) (v := ?_) (a' := ?_) z13 rfl rfl (by kernel_rfl) (fun _ _ _ h => h) (Or.inl ⟨by rfl, ?_⟩) hHeld ?_ ?_
 rotate_left
 ·rintro w' ⟨s0, s1⟩; go_simp; try with_reducible rfl
 rotate_left
 ·simp only [Act.put, sA, sB, sC]; rfl
 refine last_ (i := 13) (N := some 34) z14 rfl rfl (by kernel_rfl) (by decide) (fun K hK => ?_)
 refine goes_ Tryz.func275 (by kernel_rfl) rfl #[zv, zv, yv] (by rfl) rfl rfl (by first | rfl | simp [Act.eval]) ?_
 refine hS.out.mono ?_
 rintro e w1 ⟨v', rfl, ho⟩
 obtain ⟨pv, kv, rfl⟩ := NatRow.form ho.row
 obtain ⟨⟨⟨f1, c1', c2', f0, ⟨u0, c0'⟩, cx, cv⟩, ⟨_, _, c3', _, _, cy, _⟩⟩, hst⟩ := hM.out w1 _ ho
 have hst := Lib.hid hst
 clear ho
 refine ⟨_, rfl, ?_⟩
 refine hK.out _ _ ?_
 clear hK K
 try clear hHeld
 refine norm_ (a' := ?_) ?_ ?_
 rotate_left
 ·simp only [Act.put, sA, sB, sC]; rfl
 refine pure_ (i := 14) (N := some 35) (v := ?_) (a' := ?_) z15 rfl rfl (by kernel_rfl) (fun _ _ _ h => h) (Or.inl ⟨by rfl, ?_⟩) ?_ ?_
 rotate_left
 ·intro w'; go_simp; try with_reducible rfl
 rotate_left
 ·simp only [Act.put, sA, sB, sC]; rfl
 refine pure_ (i := 15) (N := some 36) (v := ?_) (a' := ?_) z16 rfl rfl (by kernel_rfl) (fun _ _ _ h => h) (Or.inl ⟨by rfl, ?_⟩) ?_ ?_
 rotate_left
 ·intro w'; go_simp; try with_reducible rfl
 rotate_left
 ·simp only [Act.put, sA, sB, sC]; rfl
 refine last_ (i := 16) (N := none) z17 rfl rfl (by kernel_rfl) (by decide) (fun K hK => ?_)
 refine skip_ (w1 := ?_) (by rfl) rfl ?_ ?_
 rotate_left
 ·go_simp; try rfl
 refine hK.out _ _ ?_
 clear hK K
 refine done_ (by kernel_rfl) ?_
 go_wp2_with fail
 go_ret
 exact ⟨_, rfl, hst.out⟩
set_option maxRecDepth 100000 in
theorem intSetBits_any (w : World) (base g o n0 b : Nat) (s : Bool) (zv : Value) (C : List Nat) (hz : IntAt w base g o s zv n0) (hC : Blk w b C) (hb : base ≤ b) (hw : Words WB C) (h0 : 0 < C.length) (hl : C.length ≤ 1000000) :
  Calls Tryz.prog 241 #[.pointer (some ⟨g, o, none⟩), .slice (some ⟨b, 0, none⟩) C.length C.length] w fun e w' => ∃ v', e = .returned (.pointer (some ⟨g, o, none⟩)) ∧ IntAt w' base g o false v' (val WB C) ∧ Keeps (fun k => k = g) w w' := by
 have hN := norm_row w base b C.length C hb hC hw (Nat.le_refl _) h0 hl
 rw [List.take_length] at hN
 replace hN := Lib.hid hN
 have c0 := hz.neg
 have c1 := hz.abs
 have f1 := hz.known.frozen (o + 1)
 have f0 := fun v => (hz.known.setCell g (o + 1) v).frozen o
 have hfin := Lib.hid (fun (m : Nat) (hn : NatAt w base (.slice (some ⟨b, 0, none⟩) m C.length) (val WB C)) => show IntAt ((w.setCell ⟨g, o + 1, none⟩ (.slice (some ⟨b, 0, none⟩) m C.length)).setCell ⟨g, o, none⟩ (.bool false)) base g o false (.slice (some ⟨b, 0, none⟩) m C.length) (val WB C) ∧ Keeps (fun k => k = g) w ((w.setCell ⟨g, o + 1, none⟩ (.slice (some ⟨b, 0, none⟩) m C.length)).setCell ⟨g, o, none⟩ (.bool false)) from by
  have k2 : Keeps (fun k => k = g) w ((w.setCell ⟨g, o + 1, none⟩ (.slice (some ⟨b, 0, none⟩) m C.length)).setCell ⟨g, o, none⟩ (.bool false)) := ((Keeps.refl (fun k => k = g) w).setCell _ _ (fun _ => rfl)).setCell _ _ (fun _ => rfl)
  have e0 : (w.setCell ⟨g, o + 1, none⟩ (.slice (some ⟨b, 0, none⟩) m C.length)).cell? ⟨g, o, none⟩ = some (.bool s) := (cell_set_ne (by simp) _).trans hz.neg
  refine ⟨⟨(hz.known.setCell _ _ _).setCell _ _ _, cell_set_same e0 _, ?_, NatRow.kept hn k2 (fun k hk e => ?_)⟩, k2⟩
  ·rw [cell_set_ne (by simp)]; exact cell_set_same hz.abs _
  ·have := NatRow.apart hn hz.neg
   exact this (by rw [hk, e]))
 have e0 : ∀ v, (w.setCell ⟨g, o + 1, none⟩ v).cell? ⟨g, o, none⟩ = some (.bool s) := fun v => (cell_set_ne (by simp) _).trans hz.neg
 clear hz hC hw hl h0
 go_enter Tryz.func241, Tryz.ntmps241
 go_wp2_with fail
 refine hN.out.mono ?_
 rintro e w1 ⟨m, rfl, hw1, -, hn⟩
 obtain rfl := hw1.symm
 have hf := Lib.hid (hfin.out m hn)
 have f0' := f0 (.slice (some ⟨b, 0, none⟩) m C.length)
 have e0' := e0 (.slice (some ⟨b, 0, none⟩) m C.length)
 clear hn hfin f0 e0
 go_wp2_with fail
 go_ret
 exact ⟨_, rfl, hf.out⟩
end Go.Proofs.YthocmhkafgpgbaaGreatDoor
