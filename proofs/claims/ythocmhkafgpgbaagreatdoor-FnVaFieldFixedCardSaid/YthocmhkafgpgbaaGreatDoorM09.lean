/- Parts of the walk. -/
import Derived.Test.YthocmhkafgpgbaaGreatDoorM01
import Derived.Test.YthocmhkafgpgbaaGreatDoorM08
import Derived.Deep.RegionHeld3
set_option linter.unusedVariables false
set_option linter.unusedSimpArgs false
namespace Go.Proofs.YthocmhkafgpgbaaGreatDoor
open Go.RowKit
theorem Known.frozen {w : World} {g : Nat} (h : Known w g) (i : Nat) : w.frozen? ⟨g, i, none⟩ = false := by
 obtain ⟨C, t, h⟩ := h; exact frozenOf h i
theorem Known.lt {w : World} {g : Nat} (h : Known w g) : g < w.heap.size := by
 obtain ⟨C, t, h⟩ := h; exact sizeOf_blk h
theorem Known.setCell {w : World} {g : Nat} (h : Known w g) (b i : Nat) (v : Value) : Known (w.setCell ⟨b, i, none⟩ v) g := by
 obtain ⟨C, t, h⟩ := h
 by_cases e : g = b
 ·subst e; exact ⟨_, _, blk_setCell h i v⟩
 ·exact ⟨_, _, (blk_setCell_ne e v).trans h⟩
theorem Known.keeps {w w' : World} {T : Nat → Prop} {g : Nat} (h : Known w g) (hk : Keeps T w w') (hT : ¬ T g) : Known w' g := h.kept (hk.blk _ h.lt hT)
theorem cell_set_same {w : World} {g i : Nat} {u : Value} (h : w.cell? ⟨g, i, none⟩ = some u) (v : Value) : (w.setCell ⟨g, i, none⟩ v).cell? ⟨g, i, none⟩ = some v := by
 simp only [World.cell?] at h ⊢
 simp only [World.setCell, Array.getElem?_modify]
 cases hh : w.heap[g]? with
 | none => simp [hh] at h
 | some o =>
  cases o with
  | cells C t fr =>
   simp only [hh] at h
   have hi : i < C.size := by
    have := h
    simp at this
    exact (Array.getElem?_eq_some_iff.1 this).1
   simp [hi]
  | _ => simp [hh] at h
theorem cell_set_ne {w : World} {a : Addr} {g i : Nat} (h : a ≠ ⟨g, i, none⟩) (v : Value) : (w.setCell ⟨g, i, none⟩ v).cell? a = w.cell? a := World.cell?_setCell_other _ _ _ _ h.symm
structure IntAt (w : World) (base g o : Nat) (s : Bool) (v : Value) (n : Nat) : Prop where
 known : Known w g
 neg : w.cell? ⟨g, o, none⟩ = some (.bool s)
 abs : w.cell? ⟨g, o + 1, none⟩ = some v
 nat : NatAt w base v n
theorem NatRow.apart {w : World} {b g o : Nat} {s : Bool} {u : Value} {xs : List Nat} (hr : NatRow w b u xs) (h : w.cell? ⟨g, o, none⟩ = some (.bool s)) : u.ownBlock ≠ some g := by
 intro e
 rcases hr with ⟨rfl, _⟩ | ⟨k, C, rfl, _, hC, _⟩
 ·simp [Value.ownBlock] at e
 ·simp only [Value.ownBlock, Option.some.injEq] at e
  subst e
  rw [cellOf hC] at h
  simp at h
theorem IntAt.kept {w w' : World} {T : Nat → Prop} {base g o n : Nat} {s : Bool} {v : Value} (h : IntAt w base g o s v n) (hk : Keeps T w w') (hg : ¬ T g) (hv : ∀ k, v.ownBlock = some k → ¬ T k) : IntAt w' base g o s v n :=
 ⟨h.known.keeps hk hg, hk.cellS h.neg hg, hk.cellS h.abs hg, h.nat.kept hk hv⟩
theorem IntAt.lower {w : World} {base base' g o n : Nat} {s : Bool} {v : Value} (h : IntAt w base g o s v n) (hb : base' ≤ base) : IntAt w base' g o s v n := ⟨h.known, h.neg, h.abs, NatRow.lower h.nat hb⟩
structure IntOut (w w' : World) (base g o : Nat) (zv : Value) (s : Bool) (v : Value) (n : Nat) : Prop where
 at_ : IntAt w' base g o s v n
 keep : Keeps (fun k => k = g ∨ zv.ownBlock = some k) w w'
 own : ∀ k, v.ownBlock = some k → zv.ownBlock = some k ∨ w.heap.size ≤ k
 rest : ∀ i, i ≠ o → i ≠ o + 1 → w'.cell? ⟨g, i, none⟩ = w.cell? ⟨g, i, none⟩
theorem IntAt.store {w w1 : World} {base g o n n' : Nat} {s : Bool} {zv v' : Value} (hz : IntAt w base g o s zv n) (ho : NatOut w w1 base zv v' (digs WB n')) (s' : Bool) :
  IntOut w ((w1.setCell ⟨g, o + 1, none⟩ v').setCell ⟨g, o, none⟩ (.bool s')) base g o zv s' v' n' := by
 have ha := NatRow.apart hz.nat hz.neg
 have hg : ¬ zv.ownBlock = some g := ha
 have hk1 := hz.known.keeps ho.keep hg
 have c0 := ho.keep.cellS hz.neg hg
 have c1 := ho.keep.cellS hz.abs hg
 have hv' : v'.ownBlock ≠ some g := fun e => by
  rcases ho.own g e with h | h
  ·exact ha h
  ·have := hz.known.lt; omega
 have kk : Keeps (fun k => k = g ∨ zv.ownBlock = some k) w ((w1.setCell ⟨g, o + 1, none⟩ v').setCell ⟨g, o, none⟩ (.bool s')) :=
  ((ho.keep.mono (fun _ _ h => .inr h)).setCell _ _ (fun _ => .inl rfl)).setCell _ _ (fun _ => .inl rfl)
 have k2 : Keeps (fun k => k = g) w1 ((w1.setCell ⟨g, o + 1, none⟩ v').setCell ⟨g, o, none⟩ (.bool s')) :=
  ((Keeps.refl (fun k => k = g) w1).setCell _ _ (fun _ => rfl)).setCell _ _ (fun _ => rfl)
 have e0 : (w1.setCell ⟨g, o + 1, none⟩ v').cell? ⟨g, o, none⟩ = some (.bool s) := (cell_set_ne (by simp) _).trans c0
 refine ⟨⟨(hk1.setCell _ _ _).setCell _ _ _, cell_set_same e0 _, ?_, ho.row.kept k2 (fun k hk e => hv' (by rw [hk, e]))⟩, kk, ho.own, fun i h1 h2 => ?_⟩
 ·rw [cell_set_ne (by simp)]; exact cell_set_same c1 _
 ·rw [cell_set_ne (by simp [h1]), cell_set_ne (by simp [h2])]
  exact ho.keep.cell (a := ⟨g, i, none⟩) hz.known.lt hg
theorem NatOut.undrew {w w' : World} {base : Nat} {zv v' : Value} {xs : List Nat} (h : NatOut w.drew w' base zv v' xs) : NatOut w w' base zv v' xs :=
 ⟨h.row, ⟨h.keep.os, h.keep.tape, h.keep.output, h.keep.size, h.keep.blk⟩, h.own⟩
structure Mid (w1 : World) (gz oz gx ox : Nat) (zv xv v' : Value) (sx : Bool) : Prop where
 f1 : w1.frozen? ⟨gz, oz + 1, none⟩ = false
 c1 : w1.cell? ⟨gz, oz + 1, none⟩ = some zv
 c2 : w1.cell? ⟨gx, ox + 1, none⟩ = some xv
 f0 : (w1.setCell ⟨gz, oz + 1, none⟩ v').frozen? ⟨gz, oz, none⟩ = false
 c0 : ∃ u, (w1.setCell ⟨gz, oz + 1, none⟩ v').cell? ⟨gz, oz, none⟩ = some u
 cx : (w1.setCell ⟨gz, oz + 1, none⟩ v').cell? ⟨gx, ox, none⟩ = some (.bool sx)
 cv : (w1.setCell ⟨gz, oz + 1, none⟩ v').cell? ⟨gz, oz + 1, none⟩ = some v'
theorem IntAt.mid {w w1 : World} {base bx gz oz gx ox nz nx : Nat} {sz sx : Bool} {zv xv v' : Value} {xs : List Nat} (hz : IntAt w base gz oz sz zv nz) (hx : IntAt w bx gx ox sx xv nx) (ho : NatOut w w1 base zv v' xs) : Mid w1 gz oz gx ox zv xv v' sx := by
 have hk := ho.keep
 have hg : ¬ zv.ownBlock = some gz := NatRow.apart hz.nat hz.neg
 have hgx : ¬ zv.ownBlock = some gx := NatRow.apart hz.nat hx.neg
 have kn := hz.known.keeps (T := fun k => zv.ownBlock = some k) hk hg
 have d1 := hk.cellS hz.abs hg
 have d0 := hk.cellS hz.neg hg
 have dx := hk.cellS hx.neg hgx
 have hne1 : (⟨gx, ox, none⟩ : Addr) ≠ ⟨gz, oz + 1, none⟩ := fun e => by
  rw [e, d1] at dx
  obtain ⟨p, c, rfl⟩ := NatRow.form hz.nat
  simp at dx
 have kx := kn.setCell gz (oz + 1) v'
 exact ⟨kn.frozen _, d1, hk.cellS hx.abs hgx, kx.frozen _, ⟨_, (cell_set_ne (by simp) _).trans d0⟩, (cell_set_ne hne1 _).trans dx, cell_set_same d1 _⟩
set_option maxRecDepth 100000 in
theorem intSet_any (w : World) (base bx gz oz gx ox nz nx : Nat) (sz sx : Bool) (zv xv : Value) (hz : IntAt w base gz oz sz zv nz) (hx : IntAt w bx gx ox sx xv nx) (hne : (⟨gz, oz, none⟩ : Addr) ≠ ⟨gx, ox, none⟩) (hB : base ≤ w.heap.size) (hl : (digs WB nx).length ≤ 100000) :
  Calls Tryz.prog 200 #[.pointer (some ⟨gz, oz, none⟩), .pointer (some ⟨gx, ox, none⟩)] w fun e w' => ∃ v', e = .returned (.pointer (some ⟨gz, oz, none⟩)) ∧ IntOut w w' base gz oz zv sx v' nx := by
 have hE := intNe w ⟨gz, oz, none⟩ ⟨gx, ox, none⟩ hz.known hx.known
 rw [decide_eq_false hne] at hE
 have hS := Lib.hid (set_any w.drew base bx zv xv _ _ hz.nat hx.nat hB hl)
 have c1 := hz.abs
 have c2 := hx.abs
 have hM := Lib.hid (fun (w1 : World) (v' : Value) (ho : NatOut w.drew w1 base zv v' (digs WB nx)) => And.intro (hz.mid hx ho.undrew) (hz.store ho.undrew sx))
 clear hz hx
 go_enter Tryz.func200, Tryz.ntmps200
 go_wp2_with fail
 go_region_law ((go_simp; go_at_call 137; refine hS.out.mono ?_; rintro e w1 ⟨v', rfl, ho⟩; obtain ⟨pv, kv, rfl⟩ := NatRow.form ho.row; obtain ⟨⟨f1, c1', c2', f0, ⟨u0, c0⟩, cx, cv⟩, hst⟩ := hM.out w1 _ ho; have hst := Lib.hid hst; clear ho))
 all_goals (go_wp2_with fail; go_ret; exact ⟨_, rfl, hst.out⟩)
theorem IntOut.trans_neg {w w1 : World} {base g o n : Nat} {zv v : Value} {s : Bool} (h : IntOut w w1 base g o zv s v n) (s' : Bool) : IntOut w (w1.setCell ⟨g, o, none⟩ (.bool s')) base g o zv s' v n := by
 have hv : v.ownBlock ≠ some g := NatRow.apart h.at_.nat h.at_.neg
 refine ⟨⟨h.at_.known.setCell _ _ _, cell_set_same h.at_.neg _, (cell_set_ne (by simp) _).trans h.at_.abs, ?_⟩, h.keep.setCell _ _ (fun _ => .inl rfl), h.own, fun i h1 h2 => (cell_set_ne (by simp [h1]) _).trans (h.rest i h1 h2)⟩
 exact NatRow.kept h.at_.nat ((Keeps.refl (fun k => k = g) w1).setCell _ _ (fun _ => rfl)) (fun k hk e => hv (by rw [hk, e]))
set_option maxRecDepth 100000 in
theorem intAbs_any (w : World) (base bx gz oz gx ox nz nx : Nat) (sz sx : Bool) (zv xv : Value) (hz : IntAt w base gz oz sz zv nz) (hx : IntAt w bx gx ox sx xv nx) (hne : (⟨gz, oz, none⟩ : Addr) ≠ ⟨gx, ox, none⟩) (hB : base ≤ w.heap.size) (hl : (digs WB nx).length ≤ 100000) :
  Calls Tryz.prog 250 #[.pointer (some ⟨gz, oz, none⟩), .pointer (some ⟨gx, ox, none⟩)] w fun e w' => ∃ v', e = .returned (.pointer (some ⟨gz, oz, none⟩)) ∧ IntOut w w' base gz oz zv false v' nx := by
 have hS := Lib.hid (intSet_any w base bx gz oz gx ox nz nx sz sx zv xv hz hx hne hB hl)
 clear hz hx
 go_enter Tryz.func250, Tryz.ntmps250
 go_wp2_with fail
 refine hS.out.mono ?_
 rintro e w1 ⟨v', rfl, ho⟩
 have f0 := ho.at_.known.frozen oz
 have c0 := ho.at_.neg
 have hst := Lib.hid (ho.trans_neg false)
 clear ho
 go_wp2_with fail
 go_ret
 exact ⟨_, rfl, hst.out⟩
set_option maxRecDepth 100000 in
theorem intNeg_any (w : World) (base bx gz oz gx ox nz nx : Nat) (sz sx : Bool) (zv xv : Value) (hz : IntAt w base gz oz sz zv nz) (hx : IntAt w bx gx ox sx xv nx) (hne : (⟨gz, oz, none⟩ : Addr) ≠ ⟨gx, ox, none⟩) (hB : base ≤ w.heap.size) (hl : (digs WB nx).length ≤ 100000) :
  Calls Tryz.prog 135 #[.pointer (some ⟨gz, oz, none⟩), .pointer (some ⟨gx, ox, none⟩)] w fun e w' => ∃ v', e = .returned (.pointer (some ⟨gz, oz, none⟩)) ∧ IntOut w w' base gz oz zv (decide (nx ≠ 0) && !sx) v' nx := by
 have hS := Lib.hid (intSet_any w base bx gz oz gx ox nz nx sz sx zv xv hz hx hne hB hl)
 clear hz hx
 go_enter Tryz.func135, Tryz.ntmps135
 go_wp2_with fail
 refine hS.out.mono ?_
 rintro e w1 ⟨v', rfl, ho⟩
 obtain ⟨pv, kv, rfl⟩ := NatRow.form ho.at_.nat
 have f0 := ho.at_.known.frozen oz
 have c0 := ho.at_.neg
 have c1 := ho.at_.abs
 have hst := Lib.hid (ho.trans_neg (decide (nx ≠ 0) && !sx))
 clear ho
 have hd := digs_len_pos WB_one (n := nx)
 by_cases h0 : nx = 0
 ·have hl0 : (digs WB nx).length = 0 := by omega
  rw [hl0] at c1
  have e0 : (decide (nx ≠ 0) && !sx) = false := by simp [h0]
  go_wp2_with fail
  go_ret
  refine ⟨.slice pv (digs WB nx).length kv, rfl, ?_⟩
  have := hst.out
  rw [e0] at this ⊢
  exact this
 ·have t0 : (0 : Int) < (digs WB nx).length := by have := hd.2 h0; omega
  have e0 : (decide (nx ≠ 0) && !sx) = !sx := by simp [h0]
  go_wp2_with fail
  go_ret
  refine ⟨.slice pv (digs WB nx).length kv, rfl, ?_⟩
  have := hst.out
  rw [e0] at this ⊢
  exact this
set_option maxRecDepth 100000 in
theorem intNegSelf_any (w : World) (base gz oz nz : Nat) (sz : Bool) (zv : Value) (hz : IntAt w base gz oz sz zv nz) :
  Calls Tryz.prog 135 #[.pointer (some ⟨gz, oz, none⟩), .pointer (some ⟨gz, oz, none⟩)] w fun e w' => e = .returned (.pointer (some ⟨gz, oz, none⟩)) ∧ w' = w.setCell ⟨gz, oz, none⟩ (.bool (decide (nz ≠ 0) && !sz)) := by
 have hE := intNe w ⟨gz, oz, none⟩ ⟨gz, oz, none⟩ hz.known hz.known
 rw [decide_eq_true rfl] at hE
 have hS : Calls Tryz.prog 200 #[.pointer (some ⟨gz, oz, none⟩), .pointer (some ⟨gz, oz, none⟩)] w fun e w' => e = .returned (.pointer (some ⟨gz, oz, none⟩)) ∧ w' = w := by
  go_enter Tryz.func200, Tryz.ntmps200
  go_wp2_with fail
  go_ret
  exact ⟨rfl, rfl⟩
 have hS := Lib.hid hS
 obtain ⟨pv, kv, rfl⟩ := NatRow.form hz.nat
 have f0 := hz.known.frozen oz
 have c0 := hz.neg
 have c1 := hz.abs
 clear hz
 have hd := digs_len_pos WB_one (n := nz)
 go_enter Tryz.func135, Tryz.ntmps135
 go_wp2_with fail
 refine hS.out.mono ?_
 rintro e w1 ⟨rfl, hw⟩
 obtain rfl := hw.symm
 by_cases h0 : nz = 0
 ·have hl0 : (digs WB nz).length = 0 := by omega
  rw [hl0] at c1
  go_wp2_with fail
  go_ret
  exact ⟨rfl, by simp [h0]⟩
 ·have t0 : (0 : Int) < (digs WB nz).length := by have := hd.2 h0; omega
  go_wp2_with fail
  go_ret
  exact ⟨rfl, by simp [h0]⟩
theorem IntAt.self {w : World} {base gz oz nz : Nat} {sz : Bool} {zv : Value} (hz : IntAt w base gz oz sz zv nz) (s : Bool) : IntOut w (w.setCell ⟨gz, oz, none⟩ (.bool s)) base gz oz zv s zv nz :=
 IntOut.trans_neg (w := w) ⟨hz, Keeps.refl _ _, fun _ h => .inl h, fun _ _ _ => rfl⟩ s
set_option maxRecDepth 100000 in
theorem intSign_any (w : World) (base g o n : Nat) (s : Bool) (v : Value) (h : IntAt w base g o s v n) (hn : s = true → n ≠ 0) :
  Calls Tryz.prog 63 #[.pointer (some ⟨g, o, none⟩)] w fun e w' => e = .returned (.int .i64 (if n = 0 then 0 else if s = true then -1 else 1)) ∧ w' = w := by
 obtain ⟨pv, kv, rfl⟩ := NatRow.form h.nat
 have c0 := h.neg
 have c1 := h.abs
 clear h
 have hd := digs_len_pos WB_one (n := n)
 by_cases h0 : n = 0
 ·have hl0 : (digs WB n).length = 0 := by omega
  rw [hl0] at c1
  rw [if_pos h0]
  go_enter Tryz.func63, Tryz.ntmps63
  go_wp2_with fail
  go_ret
  exact ⟨rfl, rfl⟩
 ·have t0 : ¬ ((digs WB n).length : Int) = 0 := by have := hd.2 h0; omega
  rw [if_neg h0]
  cases s
  ·go_enter Tryz.func63, Tryz.ntmps63
   go_wp2_with fail
   go_ret
   exact ⟨rfl, rfl⟩
  ·go_enter Tryz.func63, Tryz.ntmps63
   go_wp2_with fail
   go_ret
   exact ⟨rfl, rfl⟩
structure IntNew (w w' : World) (g : Nat) (s : Bool) (v : Value) (n : Nat) : Prop where
 at_ : IntAt w' w.heap.size g 0 s v n
 keep : Keeps (fun _ => False) w w'
 ge : w.heap.size ≤ g
theorem intNew_of {w w1 : World} {n : Nat} {v : Value} (s : Bool) (hk : Keeps (fun _ => False) w w1) (hv : NatAt w1 w.heap.size v n) : IntNew w (w1.alloc (.cells #[.bool s, v] 143)) w1.heap.size s v n := by
 have hb := blk_new w1 (.cells #[.bool s, v] 143 (0, 0))
 exact ⟨⟨⟨_, _, hb⟩, by rw [cellOf hb]; rfl, by rw [cellOf hb]; rfl, NatRow.kept hv ((Keeps.refl (fun _ => False) w1).alloc _) (fun _ _ h => h)⟩, hk.alloc _, hk.size⟩
theorem natNew_one (w : World) (x : Nat) (h0 : x ≠ 0) (hx : x < WB) : NatAt (w.alloc (.cells #[.int .u64 (x : Int)] 253)) w.heap.size (.slice (some ⟨w.heap.size, 0, none⟩) 1 1) x := by
 unfold NatAt
 rw [digs_small WB_one h0 hx]
 have hb : Blk (w.alloc (.cells #[.int .u64 (x : Int)] 253)) w.heap.size [x] := blk_new w _
 exact .inr ⟨w.heap.size, [x], rfl, Nat.le_refl _, hb, Words.one hx, rfl, by simp, by simp⟩
set_option maxRecDepth 100000 in
theorem newInt_any (w : World) (x : Nat) (hx : x < 9223372036854775808) :
  Calls Tryz.prog 205 #[.int .i64 x] w fun e w' => ∃ g v, e = .returned (.pointer (some ⟨g, 0, none⟩)) ∧ IntNew w w' g false v x ∧ (x = 0 → v = .slice none 0 0) := by
 have w1 : IntKind.u64.wrap (x : Int) = (x : Int) := wrapW (by rw [WB_eq]; omega)
 have t0 : ¬ (x : Int) < 0 := by omega
 by_cases h0 : x = 0
 ·subst h0
  go_enter Tryz.func205, Tryz.ntmps205
  go_wp2_with fail
  go_ret
  exact ⟨w.heap.size, rfl, intNew_of false (Keeps.refl (fun _ => False) w) (by unfold NatAt; rw [digs_zero]; exact .nil _ _)⟩
 ·have t1 : ¬ (x : Int) = 0 := by omega
  have hN := natNew_one w x h0 (by rw [WB_eq]; omega)
  have hI := Lib.hid (intNew_of false ((Keeps.refl (fun _ => False) w).alloc _) hN)
  go_enter Tryz.func205, Tryz.ntmps205
  go_wp2_with fail
  go_ret
  exact ⟨w.heap.size + 1, rfl, .slice (some ⟨w.heap.size, 0, none⟩) 1 1, by simpa using hI.out⟩
set_option maxRecDepth 100000 in
theorem natOne_any (w : World) : Calls Tryz.prog 259 #[] w fun e w' => ∃ v, e = .returned v ∧ NatAt w' w.heap.size v 1 ∧ Keeps (fun _ => False) w w' := by
 have hN := Lib.hid (natNew_one w 1 (by omega) WB_one)
 go_enter Tryz.func259, Tryz.ntmps259
 go_wp2_with fail
 go_ret
 exact ⟨_, rfl, hN.out, (Keeps.refl _ _).alloc _⟩
set_option maxRecDepth 100000 in
theorem intOne_any (w : World) : Calls Tryz.prog 208 #[] w fun e w' => ∃ g v, e = .returned (.pointer (some ⟨g, 0, none⟩)) ∧ IntNew w w' g false v 1 := by
 have hN := Lib.hid (natOne_any w)
 go_enter Tryz.func208, Tryz.ntmps208
 go_wp2_with fail
 refine hN.out.mono ?_
 rintro e w1 ⟨v, rfl, hv, hk⟩
 obtain ⟨p, c, rfl⟩ := NatRow.form hv
 have hI := Lib.hid (intNew_of false hk hv)
 clear hv
 go_wp2_with fail
 go_ret
 exact ⟨_, _, rfl, hI.out⟩
end Go.Proofs.YthocmhkafgpgbaaGreatDoor
namespace Go.Proofs.YthocmhkafgpgbaaGreatDoor
open Go.RowKit
def cmpZ (sx : Bool) (nx : Nat) (sy : Bool) (ny : Nat) : Int := if sx = sy then (if sx = true then - cmpI nx ny else cmpI nx ny) else if sx = true then -1 else 1
set_option maxRecDepth 100000 in
theorem intCmp_any (w : World) (bx by_ gx ox gy oy nx ny : Nat) (sx sy : Bool) (xv yv : Value) (hx : IntAt w bx gx ox sx xv nx) (hy : IntAt w by_ gy oy sy yv ny) (hne : (⟨gx, ox, none⟩ : Addr) ≠ ⟨gy, oy, none⟩) (hl : (digs WB nx).length ≤ 10000) (hl' : (digs WB ny).length ≤ 10000) :
  Calls Tryz.prog 207 #[.pointer (some ⟨gx, ox, none⟩), .pointer (some ⟨gy, oy, none⟩)] w fun e w' => e = .returned (.int .i64 (cmpZ sx nx sy ny)) ∧ ∃ q, w' = w.drewN q := by
 have hE := intEq w ⟨gx, ox, none⟩ ⟨gy, oy, none⟩ hx.known hy.known
 rw [decide_eq_false hne] at hE
 have hC := fun q => Lib.hid (cmp_any (w.drewN q) bx by_ xv yv nx ny hx.nat hy.nat hl hl')
 have c0 := hx.neg
 have c1 := hx.abs
 have d0 := hy.neg
 have d1 := hy.abs
 clear hx hy
 unfold cmpZ
 cases sx <;> cases sy
 ·go_enter Tryz.func207, Tryz.ntmps207
  go_wp2_with fail
  go_region
  go_wp2_with fail
  go_region_law ((go_simp; go_at_call 252; refine (hC 2).out.mono ?_; rintro e w1 ⟨rfl, q, rfl⟩))
  all_goals (go_wp2_with fail; go_ret; exact ⟨rfl, _, rfl⟩)
 ·go_enter Tryz.func207, Tryz.ntmps207
  go_wp2_with fail
  go_region
  go_wp2_with fail
  go_ret
  exact ⟨rfl, 1, rfl⟩
 ·go_enter Tryz.func207, Tryz.ntmps207
  go_wp2_with fail
  go_region
  go_wp2_with fail
  go_ret
  exact ⟨rfl, 1, rfl⟩
 ·have e1 : IntKind.i64.wrap (- (cmpI nx ny)) = - (cmpI nx ny) := by unfold cmpI; split; rfl; split <;> rfl
  go_enter Tryz.func207, Tryz.ntmps207
  go_wp2_with fail
  go_region
  go_wp2_with fail
  go_region_law ((go_simp; go_at_call 252; refine (hC 2).out.mono ?_; rintro e w1 ⟨rfl, q, rfl⟩))
  all_goals (go_wp2_with fail; go_ret; exact ⟨rfl, _, rfl⟩)
theorem IntAt.drew {w : World} {base g o n : Nat} {s : Bool} {v : Value} (h : IntAt w base g o s v n) : IntAt w.drew base g o s v n := ⟨h.known, h.neg, h.abs, h.nat⟩
theorem IntOut.drew {w w1 : World} {base g o n : Nat} {zv v : Value} {s : Bool} (h : IntOut w w1 base g o zv s v n) : IntOut w w1.drew base g o zv s v n := ⟨h.at_.drew, h.keep.drew, h.own, h.rest⟩
theorem IntAt.mid2 {w w1 : World} {base bx by_ gz oz gx ox gy oy nz nx ny : Nat} {sz sx sy : Bool} {zv xv yv v' : Value} {xs : List Nat} (hz : IntAt w base gz oz sz zv nz) (hx : IntAt w bx gx ox sx xv nx) (hy : IntAt w by_ gy oy sy yv ny) (ho : NatOut w w1 base zv v' xs) :
  Mid w1 gz oz gx ox zv xv v' sx ∧ Mid w1 gz oz gy oy zv yv v' sy := ⟨hz.mid hx ho, hz.mid hy ho⟩
set_option maxRecDepth 100000 in
set_option maxHeartbeats 1000000 in
theorem intmul_any (w : World) (base bx by_ gz oz gx ox gy oy nz nx ny : Nat) (sz sx sy : Bool) (zv xv yv : Value) (hz : IntAt w base gz oz sz zv nz) (hx : IntAt w bx gx ox sx xv nx) (hy : IntAt w by_ gy oy sy yv ny) (hne : (⟨gx, ox, none⟩ : Addr) ≠ ⟨gy, oy, none⟩) (hB : base ≤ w.heap.size)
  (hg : Thr w) (hGL : GL ≤ base) (hl : (digs WB nx).length < 40) (hl' : (digs WB ny).length < 40) :
  Calls Tryz.prog 273 #[.pointer (some ⟨gz, oz, none⟩), .pointer none, .pointer (some ⟨gx, ox, none⟩), .pointer (some ⟨gy, oy, none⟩)] w fun e w' => ∃ v', e = .returned (.tuple #[]) ∧ IntOut w w' base gz oz zv (decide (nx * ny ≠ 0) && (sx != sy)) v' (nx * ny) := by
 have hE := intEq w ⟨gx, ox, none⟩ ⟨gy, oy, none⟩ hx.known hy.known
 rw [decide_eq_false hne] at hE
 have hS := Lib.hid (mul_any w.drew base bx by_ zv xv yv (.pointer none) _ nx ny hz.nat hx.nat hy.nat hB ⟨hg.div, hg.mul, hg.sqr, hg.sqrK⟩ hGL hl hl')
 have c1 := hz.abs
 have c2 := hx.abs
 have c3 := hy.abs
 have hM := Lib.hid (fun (w1 : World) (v' : Value) (ho : NatOut w.drew w1 base zv v' (digs WB (nx * ny))) => And.intro (hz.mid2 hx hy ho.undrew) (hz.store ho.undrew (decide (nx * ny ≠ 0) && (sx != sy))))
 clear hz hx hy
 have hd := digs_len_pos WB_one (n := nx * ny)
 generalize nx * ny = n at *
 by_cases h0 : n = 0
 ·have hl0 : (digs WB n).length = 0 := by omega
  have e0 : (decide (n ≠ 0) && (sx != sy)) = false := by simp [h0]
  rw [e0] at hM ⊢
  go_enter Tryz.func273, Tryz.ntmps273
  go_wp2_with fail
  go_region_law ((go_simp; go_at_call 295; refine hS.out.mono ?_; rintro e w1 ⟨v', rfl, ho⟩; obtain ⟨pv, kv, rfl⟩ := NatRow.form ho.row; obtain ⟨⟨⟨f1, c1', c2', f0, ⟨u0, c0⟩, cx, cv⟩, ⟨_, _, c3', _, _, cy, _⟩⟩, hst⟩ := hM.out w1 _ ho; have hst := Lib.hid hst; rw [hl0] at cv f0 c0 cx cy ⊢; clear ho))
  all_goals (go_wp2_with fail)
  all_goals go_region
  all_goals (go_wp2_with fail)
  all_goals (go_end0; have := hst.out; rw [hl0] at this; exact ⟨_, rfl, this.drew⟩)
 ·have t0 : (0 : Int) < (digs WB n).length := by have := hd.2 h0; omega
  have e0 : (decide (n ≠ 0) && (sx != sy)) = (sx != sy) := by simp [h0]
  rw [e0] at hM ⊢
  go_enter Tryz.func273, Tryz.ntmps273
  go_wp2_with fail
  go_region_law ((go_simp; go_at_call 295; refine hS.out.mono ?_; rintro e w1 ⟨v', rfl, ho⟩; obtain ⟨pv, kv, rfl⟩ := NatRow.form ho.row; obtain ⟨⟨⟨f1, c1', c2', f0, ⟨u0, c0⟩, cx, cv⟩, ⟨_, _, c3', _, _, cy, _⟩⟩, hst⟩ := hM.out w1 _ ho; have hst := Lib.hid hst; clear ho))
  all_goals (go_wp2_with fail)
  all_goals go_region
  all_goals (go_wp2_with fail)
  all_goals (go_end0; exact ⟨_, rfl, hst.out.drew⟩)
set_option maxRecDepth 100000 in
theorem intMul_any (w : World) (base bx by_ gz oz gx ox gy oy nz nx ny : Nat) (sz sx sy : Bool) (zv xv yv : Value) (hz : IntAt w base gz oz sz zv nz) (hx : IntAt w bx gx ox sx xv nx) (hy : IntAt w by_ gy oy sy yv ny) (hne : (⟨gx, ox, none⟩ : Addr) ≠ ⟨gy, oy, none⟩) (hB : base ≤ w.heap.size)
  (hg : Thr w) (hGL : GL ≤ base) (hl : (digs WB nx).length < 40) (hl' : (digs WB ny).length < 40) :
  Calls Tryz.prog 223 #[.pointer (some ⟨gz, oz, none⟩), .pointer (some ⟨gx, ox, none⟩), .pointer (some ⟨gy, oy, none⟩)] w fun e w' => ∃ v', e = .returned (.pointer (some ⟨gz, oz, none⟩)) ∧ IntOut w w' base gz oz zv (decide (nx * ny ≠ 0) && (sx != sy)) v' (nx * ny) := by
 have hS := Lib.hid (intmul_any w base bx by_ gz oz gx ox gy oy nz nx ny sz sx sy zv xv yv hz hx hy hne hB hg hGL hl hl')
 clear hz hx hy
 go_enter Tryz.func223, Tryz.ntmps223
 go_wp2_with fail
 refine hS.out.mono ?_
 rintro e w1 ⟨v', rfl, ho⟩
 have ho := Lib.hid ho
 go_wp2_with fail
 go_ret
 exact ⟨_, rfl, ho.out⟩
end Go.Proofs.YthocmhkafgpgbaaGreatDoor
namespace Go.Proofs.YthocmhkafgpgbaaGreatDoor
open Go.RowKit
structure DivOut (w w' : World) (base : Nat) (zv z2 q r : Value) (a b : Nat) : Prop where
 quo : NatAt w' base q (a / b)
 rem : NatAt w' base r (a % b)
 keep : Keeps (fun k => zv.ownBlock = some k ∨ z2.ownBlock = some k) w w'
 ownq : ∀ k, q.ownBlock = some k → zv.ownBlock = some k ∨ w.heap.size ≤ k
 ownr : ∀ k, r.ownBlock = some k → z2.ownBlock = some k ∨ w.heap.size ≤ k
 apart : ∀ k, q.ownBlock = some k → r.ownBlock ≠ some k
set_option maxRecDepth 100000 in
set_option maxHeartbeats 1000000 in
theorem divW_row (w : World) (base bx by_ : Nat) (zv z2 xv yv stk : Value) (zs z2s : List Nat) (a b : Nat) (h : NatRow w base zv zs) (h2 : NatRow w base z2 z2s) (hx : NatAt w bx xv a) (hy : NatAt w by_ yv b) (hap : ∀ k, zv.ownBlock = some k → z2.ownBlock ≠ some k) (hB : base ≤ w.heap.size) (hl : (digs WB a).length ≤ 10000) (hb0 : b ≠ 0) (hb : b < WB) :
  Calls Tryz.prog 209 #[zv, stk, z2, xv, yv] w fun e w' => ∃ q r, e = .returned (.tuple #[q, r]) ∧ DivOut w w' base zv z2 q r a b := by
 have hyd : digs WB b = [b] := digs_small WB_one hb0 hb
 have hyr : NatRow w by_ yv [b] := by rw [← hyd]; exact hy
 obtain ⟨gy, Cy, rfl, hby, hCy, hwy, hty, h0y, hly, hyC⟩ := hyr.mk' (by simp)
 have hvy := hCy.row (xs := [b]) hty (by simpa using hyC)
 have cy := hvy 0 (by simp)
 rw [Nat.zero_add] at cy
 simp only [List.length_cons, List.length_nil, Nat.zero_add, List.getElem_cons_zero] at cy ⊢
 have hD := Lib.hid (divW_any w base bx b zv xv zs a h hx hB hl hb0 hb)
 have hbs : a % b < WB := Nat.lt_trans (Nat.mod_lt _ (by omega)) hb
 go_enter_defers Tryz.func209, Tryz.ntmps209
 go_wp2_with fail
 refine hD.out.mono ?_
 rintro e w1 ⟨q, rfl, ho⟩
 have hz2 := h2.kept ho.keep (fun k hk e => hap k e hk)
 have hS := Lib.hid (setWord_any w1 base z2 z2s (a % b) hz2 hbs (Nat.le_trans hB ho.keep.size))
 generalize hr : a % b = r at *
 go_wp2_with fail
 refine hS.out.mono ?_
 rintro e w2 ⟨r', rfl, ho2⟩
 have hrl := (ho2.row)
 have hapq : ∀ k, q.ownBlock = some k → z2.ownBlock ≠ some k := fun k hk e => by
  rcases ho.own k hk with h1 | h1
  ·exact hap k h1 e
  ·have := (h2.lt k e).2; omega
 have hD : DivOut w w2 base zv z2 q r' a b := by
  refine ⟨NatRow.kept ho.row ho2.keep hapq, by rw [hr]; exact ho2.row, (ho.keep.mono (fun _ _ x => .inl x)).trans ho2.keep (fun _ _ x => .inr x), ho.own, fun k hk => ?_, fun k hk e => ?_⟩
  ·rcases ho2.own k hk with h1 | h1
   ·exact .inl h1
   ·exact .inr (Nat.le_trans ho.keep.size h1)
  ·rcases ho2.own k e with h1 | h1
   ·exact hapq k hk h1
   ·have := (NatRow.lt ho.row k hk).2; omega
 have hD := Lib.hid hD
 go_wp2_with fail
 refine ⟨.tuple #[q, r'], by simp [results, Tryz.results209, go_sem], q, r', rfl, hD.out⟩
end Go.Proofs.YthocmhkafgpgbaaGreatDoor
