/- Rational numbers in memory. -/
import Derived.Test.YtgamldefngehlaaGreatDoorM11
import Derived.Test.YtgamldefngehlaaGreatDoorM19
set_option linter.unusedVariables false
set_option linter.unusedSimpArgs false
namespace Go.Proofs.YtgamldefngehlaaGreatDoor
open Go.RowKit
open Go.Proofs.YtgamldefngehlaaGreatDoorW.PrintLast
structure RatAt (w : World) (base g : Nat) (s s' : Bool) (v u : Value) (n d : Nat) : Prop where
 num : IntAt w base g 0 s v n
 den : IntAt w base g 2 s' u d
 ap : ∀ k, v.ownBlock = some k → u.ownBlock ≠ some k
structure RatOut (w w' : World) (base g : Nat) (zv zu : Value) (s s' : Bool) (v u : Value) (n d : Nat) : Prop where
 at_ : RatAt w' base g s s' v u n d
 keep : Keeps (fun k => k = g ∨ zv.ownBlock = some k ∨ zu.ownBlock = some k) w w'
 own : ∀ k, v.ownBlock = some k ∨ u.ownBlock = some k → zv.ownBlock = some k ∨ zu.ownBlock = some k ∨ w.heap.size ≤ k
theorem RatAt.kept {w w' : World} {T : Nat → Prop} {base g n d : Nat} {s s' : Bool} {v u : Value} (h : RatAt w base g s s' v u n d) (hk : Keeps T w w') (hg : ¬ T g) (hv : ∀ k, v.ownBlock = some k → ¬ T k) (hu : ∀ k, u.ownBlock = some k → ¬ T k) : RatAt w' base g s s' v u n d :=
 ⟨h.num.kept hk hg hv, h.den.kept hk hg hu, h.ap⟩
theorem RatAt.notG {w : World} {base g n d : Nat} {s s' : Bool} {v u : Value} (h : RatAt w base g s s' v u n d) : v.ownBlock ≠ some g ∧ u.ownBlock ≠ some g := ⟨NatRow.apart h.num.nat h.num.neg, NatRow.apart h.den.nat h.num.neg⟩
theorem Keeps.one {w w' : World} {g : Nat} (h : Keeps (fun k => k = g) w w') (i : Nat) (v : Value) : Keeps (fun k => k = g) w (w'.setCell ⟨g, i, none⟩ v) := h.setCell _ _ (fun _ => rfl)
theorem RatOut.refl {w : World} {base g n d : Nat} {s s' : Bool} {v u : Value} (h : RatAt w base g s s' v u n d) : RatOut w w base g v u s s' v u n d :=
 ⟨h, Keeps.refl _ _, fun k hk => hk.elim .inl (fun h => .inr (.inl h))⟩
theorem RatOut.trans {w w1 w2 : World} {base g n d n' d' : Nat} {s s' t t' : Bool} {zv zu v u v' u' : Value} (h : RatOut w w1 base g zv zu s s' v u n d) (h' : RatOut w1 w2 base g v u t t' v' u' n' d') : RatOut w w2 base g zv zu t t' v' u' n' d' :=
 ⟨h'.at_, h.keep.trans h'.keep (fun k hk e => by
  rcases e with e | e | e
  ·exact .inl e
  ·rcases h.own k (.inl e) with h1 | h1 | h1
   ·exact .inr (.inl h1)
   ·exact .inr (.inr h1)
   ·omega
  ·rcases h.own k (.inr e) with h1 | h1 | h1
   ·exact .inr (.inl h1)
   ·exact .inr (.inr h1)
   ·omega), fun k hk => by
  rcases h'.own k hk with h1 | h1 | h1
  ·exact h.own k (.inl h1)
  ·exact h.own k (.inr h1)
  ·exact .inr (.inr (Nat.le_trans h.keep.size h1))⟩
theorem RatOut.drewN {w w1 : World} {base g n d : Nat} {s s' : Bool} {zv zu v u : Value} (h : RatOut w w1 base g zv zu s s' v u n d) (k : Nat) : RatOut w (w1.drewN k) base g zv zu s s' v u n d :=
 ⟨⟨h.at_.num.drewN k, h.at_.den.drewN k, h.at_.ap⟩, h.keep.drewN k, h.own⟩
theorem RatOut.fresh {w w1 w2 : World} {base g n d : Nat} {s s' : Bool} {zv zu v u : Value} (h : RatOut w w1 base g zv zu s s' v u n d) (k : Keeps (fun _ => False) w1 w2) : RatOut w w2 base g zv zu s s' v u n d :=
 ⟨h.at_.kept k (fun h => h) (fun _ _ h => h) (fun _ _ h => h), h.keep.trans k (fun _ _ h => h.elim), h.own⟩
theorem RatAt.putDen {w w1 : World} {base g n d d' : Nat} {s s' : Bool} {v u u' : Value} (h : RatAt w base g s s' v u n d) (ho : NatOut w w1 base u u' (digs WB d')) : RatOut w (w1.setCell ⟨g, 3, none⟩ u') base g v u s s' v u' n d' := by
 obtain ⟨hvg, hug⟩ := h.notG
 have kg := h.num.known.keeps (T := fun k => u.ownBlock = some k) ho.keep hug
 have k1 : Keeps (fun k => k = g) w1 (w1.setCell ⟨g, 3, none⟩ u') := (Keeps.refl _ _).one 3 _
 have lt := h.num.known.lt
 have hu' : u'.ownBlock ≠ some g := fun e => by
  rcases ho.own g e with h1 | h1
  ·exact hug h1
  ·omega
 have c : ∀ {i : Nat} {x : Value}, i ≠ 3 → w.cell? ⟨g, i, none⟩ = some x → (w1.setCell ⟨g, 3, none⟩ u').cell? ⟨g, i, none⟩ = some x := fun hi hc => (cell_set_ne (by simp [hi]) _).trans (ho.keep.cellS hc hug)
 refine ⟨⟨⟨kg.setCell _ _ _, c (by omega) h.num.neg, c (by omega) h.num.abs, ?_⟩, ⟨kg.setCell _ _ _, c (by omega) h.den.neg, cell_set_same (ho.keep.cellS h.den.abs hug) _, NatRow.kept ho.row k1 (fun k hk e => hu' (by rw [hk, e]))⟩, fun k h1 h2 => ?_⟩, (ho.keep.mono (fun _ _ h => .inr (.inr h))).trans k1 (fun _ _ h => .inl h), fun k hk => ?_⟩
 ·exact NatRow.kept (NatRow.kept h.num.nat ho.keep (fun k hk e => h.ap k hk e)) k1 (fun k hk e => hvg (by rw [hk, e]))
 ·rcases ho.own k h2 with h3 | h3
  ·exact h.ap k h1 h3
  ·have := (NatRow.lt h.num.nat k h1).2; omega
 ·rcases hk with hk | hk
  ·exact .inl hk
  ·exact .inr (ho.own k hk)
theorem RatAt.putNum {w w1 : World} {base g n d n' : Nat} {s s' : Bool} {v u v' : Value} (h : RatAt w base g s s' v u n d) (ho : NatOut w w1 base v v' (digs WB n')) : RatOut w (w1.setCell ⟨g, 1, none⟩ v') base g v u s s' v' u n' d := by
 obtain ⟨hvg, hug⟩ := h.notG
 have kg := h.num.known.keeps (T := fun k => v.ownBlock = some k) ho.keep hvg
 have k1 : Keeps (fun k => k = g) w1 (w1.setCell ⟨g, 1, none⟩ v') := (Keeps.refl _ _).one 1 _
 have lt := h.num.known.lt
 have hv' : v'.ownBlock ≠ some g := fun e => by
  rcases ho.own g e with h1 | h1
  ·exact hvg h1
  ·omega
 have c : ∀ {i : Nat} {x : Value}, i ≠ 1 → w.cell? ⟨g, i, none⟩ = some x → (w1.setCell ⟨g, 1, none⟩ v').cell? ⟨g, i, none⟩ = some x := fun hi hc => (cell_set_ne (by simp [hi]) _).trans (ho.keep.cellS hc hvg)
 refine ⟨⟨⟨kg.setCell _ _ _, c (by omega) h.num.neg, cell_set_same (ho.keep.cellS h.num.abs hvg) _, NatRow.kept ho.row k1 (fun k hk e => hv' (by rw [hk, e]))⟩, ⟨kg.setCell _ _ _, c (by omega) h.den.neg, c (by omega) h.den.abs, ?_⟩, fun k h1 h2 => ?_⟩, (ho.keep.mono (fun _ _ h => .inr (.inl h))).trans k1 (fun _ _ h => .inl h), fun k hk => ?_⟩
 ·exact NatRow.kept (NatRow.kept h.den.nat ho.keep (fun k hk e => h.ap k e hk)) k1 (fun k hk e => hug (by rw [hk, e]))
 ·rcases ho.own k h1 with h3 | h3
  ·exact h.ap k h3 h2
  ·have := (NatRow.lt h.den.nat k h2).2; omega
 ·rcases hk with hk | hk
  ·rcases ho.own k hk with h1 | h1
   ·exact .inl h1
   ·exact .inr (.inr h1)
  ·exact .inr (.inl hk)
theorem RatAt.putNeg {w : World} {base g n d : Nat} {s s' : Bool} {v u : Value} (h : RatAt w base g s s' v u n d) (t : Bool) : RatOut w (w.setCell ⟨g, 0, none⟩ (.bool t)) base g v u t s' v u n d := by
 obtain ⟨hvg, hug⟩ := h.notG
 have k1 : Keeps (fun k => k = g) w (w.setCell ⟨g, 0, none⟩ (.bool t)) := (Keeps.refl _ _).one 0 _
 exact ⟨⟨⟨h.num.known.setCell _ _ _, cell_set_same h.num.neg _, (cell_set_ne (by simp) _).trans h.num.abs, NatRow.kept h.num.nat k1 (fun k hk e => hvg (by rw [hk, e]))⟩,
  ⟨h.num.known.setCell _ _ _, (cell_set_ne (by simp) _).trans h.den.neg, (cell_set_ne (by simp) _).trans h.den.abs, NatRow.kept h.den.nat k1 (fun k hk e => hug (by rw [hk, e]))⟩, h.ap⟩, k1.mono (fun _ _ h => .inl h), fun k hk => hk.elim .inl (fun h => .inr (.inl h))⟩
theorem RatAt.putNeg2 {w : World} {base g n d : Nat} {s s' : Bool} {v u : Value} (h : RatAt w base g s s' v u n d) (t : Bool) : RatOut w (w.setCell ⟨g, 2, none⟩ (.bool t)) base g v u s t v u n d := by
 obtain ⟨hvg, hug⟩ := h.notG
 have k1 : Keeps (fun k => k = g) w (w.setCell ⟨g, 2, none⟩ (.bool t)) := (Keeps.refl _ _).one 2 _
 exact ⟨⟨⟨h.num.known.setCell _ _ _, (cell_set_ne (by simp) _).trans h.num.neg, (cell_set_ne (by simp) _).trans h.num.abs, NatRow.kept h.num.nat k1 (fun k hk e => hvg (by rw [hk, e]))⟩,
  ⟨h.num.known.setCell _ _ _, cell_set_same h.den.neg _, (cell_set_ne (by simp) _).trans h.den.abs, NatRow.kept h.den.nat k1 (fun k hk e => hug (by rw [hk, e]))⟩, h.ap⟩, k1.mono (fun _ _ h => .inl h), fun k hk => hk.elim .inl (fun h => .inr (.inl h))⟩
set_option maxRecDepth 100000 in
set_option maxHeartbeats 1000000 in
theorem ratNorm_zero (w : World) (base g d : Nat) (s s' : Bool) (v u : Value) (h : RatAt w base g s s' v u 0 d) (hB : base ≤ w.heap.size) :
  Calls Tryz.prog 138 #[.pointer (some ⟨g, 0, none⟩)] w fun e w' => ∃ u', e = .returned (.pointer (some ⟨g, 0, none⟩)) ∧ RatOut w w' base g v u false s' v u' 0 1 := by
 obtain ⟨hvg, hug⟩ := h.notG
 have c0 := h.num.neg
 have c1 := h.num.abs
 have c3 := h.den.abs
 have f0 := h.num.known.frozen 0
 have k1 : Keeps (fun k => k = g) w (w.setCell ⟨g, 0, none⟩ (.bool false)) := (Keeps.refl _ _).one 0 _
 have hu1 := NatRow.kept h.den.nat k1 (fun k hk e => hug (by rw [hk, e]))
 have hS := Lib.hid (setWord_any (w.setCell ⟨g, 0, none⟩ (.bool false)) base u _ 1 hu1 WB_one (Nat.le_trans hB k1.size))
 have e3 : (w.setCell ⟨g, 0, none⟩ (.bool false)).cell? ⟨g, 3, none⟩ = some u := (cell_set_ne (by simp) _).trans c3
 obtain ⟨pv, kv, rfl⟩ := NatRow.form h.num.nat
 rw [digs_zero] at c1
 go_enter_defers Tryz.func138, Tryz.ntmps138
 go_wp2_with fail
 refine hS.out.mono ?_
 rintro e w2 ⟨u', rfl, ho⟩
 obtain ⟨p', k', rfl⟩ := NatRow.form ho.row
 have h1 := h.putNeg false
 have hfin := Lib.hid (h1.trans (h1.at_.putDen ho))
 have kg := h1.at_.num.known.keeps (T := fun k => u.ownBlock = some k) ho.keep hug
 have f3 := kg.frozen 3
 have c3' := ho.keep.cellS e3 hug
 clear h h1 ho kg hu1 k1
 go_wp2_with fail
 exact ⟨_, results_tmp rfl _ _ _, _, rfl, hfin.out⟩
theorem DivOut.toNat {w w1 : World} {base : Nat} {zv q r : Value} {a b : Nat} (h : DivOut w.drew w1 base zv (.slice none 0 0) q r a b) : NatOut w w1 base zv q (digs WB (a / b)) :=
 ⟨h.quo, Keeps.mono (T := fun k => zv.ownBlock = some k ∨ (Value.slice none 0 0).ownBlock = some k) ⟨h.keep.os, h.keep.tape, h.keep.output, h.keep.size, h.keep.blk⟩ (fun _ _ x => x.elim id (fun x => by simp [Value.ownBlock] at x)), h.ownq⟩
theorem midRat {w w1 : World} {base g n d : Nat} {s s' : Bool} {v u v' z : Value} {xs : List Nat} (h : RatAt w base g s s' v u n d) (ho : NatOut w w1 base z v' xs) (hz : z = v ∨ z = u) (i : Nat) (x : Value) (hc : w.cell? ⟨g, i, none⟩ = some x) : w1.frozen? ⟨g, i, none⟩ = false ∧ w1.cell? ⟨g, i, none⟩ = some x := by
 obtain ⟨hvg, hug⟩ := h.notG
 have hg : ¬ z.ownBlock = some g := by rcases hz with rfl | rfl <;> assumption
 exact ⟨(h.num.known.keeps (T := fun k => z.ownBlock = some k) ho.keep hg).frozen i, ho.keep.cellS hc hg⟩
theorem gcd_pos {a b : Nat} (ha : a ≠ 0) : Nat.gcd a b ≠ 0 := fun h => ha (Nat.eq_zero_of_gcd_eq_zero_left h)
structure RatFits (w : World) (base g n d : Nat) : Prop where
 few : (digs WB n).length ≤ 3 ∨ (digs WB d).length ≤ 3
 ln : (digs WB n).length ≤ 900
 ld : (digs WB d).length ≤ 900
 thr : Thr w
 gb : GL ≤ base
 gg : GL ≤ g
theorem RatAt.thr {w w' : World} {base g n d : Nat} {s s' : Bool} {v u : Value} (h : RatAt w base g s s' v u n d) (ht : Thr w) (gb : GL ≤ base) (gg : GL ≤ g) (hk : Keeps (fun k => k = g ∨ v.ownBlock = some k ∨ u.ownBlock = some k) w w') : Thr w' :=
 ht.kept hk (fun k hk e => by
  rcases e with e | e | e
  ·omega
  ·have := (NatRow.lt h.num.nat k e).1; omega
  ·have := (NatRow.lt h.den.nat k e).1; omega)
set_option maxRecDepth 100000 in
set_option maxHeartbeats 2000000 in
theorem ratNorm_any (w : World) (base g n d : Nat) (s s' : Bool) (v u : Value) (h : RatAt w base g s s' v u n d) (hB : base ≤ w.heap.size) (hn : n ≠ 0) (hd : d ≠ 0) (hF : RatFits w base g n d) :
  Calls Tryz.prog 138 #[.pointer (some ⟨g, 0, none⟩)] w fun e w' => ∃ v' u', e = .returned (.pointer (some ⟨g, 0, none⟩)) ∧ RatOut w w' base g v u s false v' u' (n / Nat.gcd n d) (d / Nat.gcd n d) := by
 have hln := hF.ln
 have hld := hF.ld
 have hs4 : (digs WB n).length ≤ 4 ∨ (digs WB d).length ≤ 4 := hF.few.imp (fun h => by omega) (fun h => by omega)
 have hTh := Lib.hid (fun (W : World) hk => h.thr (w' := W) hF.thr hF.gb hF.gg hk)
 have hGB := hF.gb
 have c0 := h.num.neg
 have c1 := h.num.abs
 have c2 := h.den.neg
 have c3 := h.den.abs
 have f := h.num.known.frozen
 have kn := h.num.known
 obtain ⟨pv, kv, rfl⟩ := NatRow.form h.num.nat
 obtain ⟨pu, ku, rfl⟩ := NatRow.form h.den.nat
 have t1 : (((digs WB n).length : Int) == 0) = false := by have := (digs_len_pos WB_one (n := n)).2 hn; exact beq_eq_false_iff_ne.2 (by omega)
 have t2 : (((digs WB d).length : Int) == 0) = false := by have := (digs_len_pos WB_one (n := d)).2 hd; exact beq_eq_false_iff_ne.2 (by omega)
 go_enter_defers Tryz.func138, Tryz.ntmps138
 go_wp2_with fail
 refine (getStack_any _).mono ?_
 rintro e w1 ⟨rfl, hst, hk1⟩
 have h1 := h.kept hk1 (fun h => h) (fun _ _ h => h) (fun _ _ h => h)
 have h2 := h1.putNeg false
 have h3 := h2.trans (h2.at_.putNeg2 false)
 have c0' := h1.num.neg
 have c2' := h2.at_.den.neg
 have f0' := h1.num.known.frozen 0
 have f2' := h2.at_.num.known.frozen 2
 have hst3 : StkNew ((w1.setCell ⟨g, 0, none⟩ (.bool false)).setCell ⟨g, 2, none⟩ (.bool false)) w.heap.size := by
  have hne : w.heap.size ≠ g := fun e => by have := h.num.known.lt; omega
  unfold StkNew
  rw [blk_setCell_ne hne, blk_setCell_ne hne]
  exact hst
 have h3 : RatOut w ((w1.setCell ⟨g, 0, none⟩ (.bool false)).setCell ⟨g, 2, none⟩ (.bool false)) base g _ _ false false _ _ n d := ⟨h3.at_, (hk1.mono (fun _ _ h => h.elim)).trans h3.keep (fun _ _ h => h), fun k hk => (h3.own k hk).imp id (Or.imp id (fun h => Nat.le_trans hk1.size h))⟩
 clear h1 h2 hk1 hst
 go_wp2_with fail
 generalize hW3 : (w1.setCell ⟨g, 0, none⟩ (.bool false)).setCell ⟨g, 2, none⟩ (.bool false) = w3 at *
 clear hW3 c0' c2' f0' f2'
 refine wp_region_noPanic ?_
 refine start_ (n := 9) (S := fun _ => True) (ds := [0, 7]) z117 (by kernel_rfl) rfl rfl trivial (fun hHeld => ?_)
 refine stq 1 52 z118 ?_
 refine stq 2 53 z119 ?_
 refine stq 3 54 z120 ?_
 refine stq 4 55 z121 ?_
 refine stq 5 56 z122 ?_
 refine stq 6 57 z123 ?_
 refine last_ (i := 0) (N := some 51) z124 rfl rfl (by kernel_rfl) (by decide) (fun K hK => ?_)
 refine goes_ Tryz.func206 (by kernel_rfl) rfl #[.int .i64 0] (by rfl) rfl rfl (by first | rfl | simp [Act.eval]) ?_
 refine (newInt_any w3.drew 0 (by omega)).mono ?_
 rintro e w4 ⟨gz, zv, rfl, hz, hzn⟩
 obtain rfl := hzn rfl
 refine ⟨_, rfl, ?_⟩
 refine hK.out _ _ ?_
 clear hK K
 try clear hHeld
 refine norm_ (a' := ?_) ?_ ?_
 rotate_left
 ·simp only [Act.put, sA, sB, sC]; rfl
 refine last_ (i := 7) (N := some 58) z125 rfl rfl (by kernel_rfl) (by decide) (fun K hK => ?_)
 refine goes_ Tryz.func207 (by kernel_rfl) rfl #[.pointer (some ⟨gz, 0, none⟩), .pointer none, .pointer none, .pointer (some ⟨g, 0, none⟩), .pointer (some ⟨g, 2, none⟩)] (by rfl) rfl rfl (by first | rfl | simp [Act.eval]) ?_
 have h4 := h3.at_.kept (T := fun _ => False) ⟨hz.keep.os, hz.keep.tape, hz.keep.output, hz.keep.size, hz.keep.blk⟩ (fun h => h) (fun _ _ h => h) (fun _ _ h => h)
 have hzs := hz.keep.size
 refine (gcd_any w4 base w3.heap.size gz 0 g 0 g 2 n d false _ _ _ hz.at_ h4.num h4.den hzs hn hd hs4 hln hld (hTh.out w4 (h3.keep.trans ⟨hz.keep.os, hz.keep.tape, hz.keep.output, hz.keep.size, hz.keep.blk⟩ (fun _ _ e => e.elim))) (Nat.le_trans (Nat.le_trans hGB hB) (Nat.le_trans h3.keep.size hz.keep.size))).mono ?_
 rintro e w5 ⟨fv, rfl, hf⟩
 refine ⟨_, rfl, ?_⟩
 refine hK.out _ _ ?_
 clear hK K
 try clear hHeld
 refine norm_ (a' := ?_) ?_ ?_
 rotate_left
 ·simp only [Act.put, sA, sB, sC]; rfl
 refine stq 8 5 z126 ?_
 refine done_ (by kernel_rfl) ?_
 refine NoPanic.normal ?_
 have k5 : Keeps (fun _ => False) w3 w5 := hf.fresh ⟨hz.keep.os, hz.keep.tape, hz.keep.output, hz.keep.size, hz.keep.blk⟩ hz.ge (fun _ h => by simp [Value.ownBlock] at h)
 go_wp2_with fail
 refine (intOne_any w5).mono ?_
 rintro e w6 ⟨go, ov, rfl, ho⟩
 have k6 : Keeps (fun _ => False) w3 w6 := k5.trans ho.keep (fun _ _ h => h)
 have f6 := hf.at_.kept ho.keep (fun h => h) (fun _ _ h => h)
 have hgo : gz ≠ go := by have := ho.ge; have := hf.at_.known.lt; omega
 have hG1 : Nat.gcd n d ≠ 0 := gcd_pos hn
 have hGn : Nat.gcd n d ≤ n := Nat.gcd_le_left _ (by omega)
 have hGd : Nat.gcd n d ≤ d := Nat.gcd_le_right _ (by omega)
 have hlG : (digs WB (Nat.gcd n d)).length ≤ 3 := hF.few.elim (fun h => Nat.le_trans (digs_length_mono WB_one hGn) h) (fun h => Nat.le_trans (digs_length_mono WB_one hGd) h)
 have hl1 : (digs WB 1).length ≤ 10000 := by rw [digs_small WB_one (by omega) WB_one]; simp
 have hC := Lib.hid (intCmp_any w6 _ _ gz 0 go 0 _ 1 false false fv ov f6 ho.at_ (by simp [hgo]) (by omega) hl1)
 have h6 := h3.at_.kept k6 (fun h => h) (fun _ _ h => h) (fun _ _ h => h)
 have hst6 := k6.at_ hst3 (fun h => h)
 have hgz : w3.heap.size ≤ gz := hz.ge
 have hown : ∀ k, fv.ownBlock = some k → w3.heap.size ≤ k := fun k hk => (NatRow.lt f6.nat k hk).1
 clear hz h4 hf k5 ho
 go_wp2_with fail
 refine hC.out.mono ?_
 rintro e w7 ⟨rfl, q, rfl⟩
 have e1 : cmpZ false (Nat.gcd n d) false 1 = cmpI (Nat.gcd n d) 1 := rfl
 rw [e1]
 have h7 : RatOut w (w6.drewN q) base g _ _ false false _ _ n d := h3.fresh (k6.drewN q)
 have f7 := f6.drewN q
 have hst7 : StkNew (w6.drewN q) w.heap.size := hst6
 have hk67 := k6.size
 have hsz : w3.heap.size ≤ (w6.drewN q).heap.size := hk67
 have hgw := h.num.known.lt
 have hk3 := h3.keep.size
 have hvl : ∀ k, (Value.slice pv (digs WB n).length kv).ownBlock = some k → k < w3.heap.size := fun k hk => (NatRow.lt h3.at_.num.nat k hk).2
 have hul : ∀ k, (Value.slice pu (digs WB d).length ku).ownBlock = some k → k < w3.heap.size := fun k hk => (NatRow.lt h3.at_.den.nat k hk).2
 have hgl := h3.at_.num.known.lt
 generalize w6.drewN q = w7 at *
 clear h3 h6 f6 hst6 k6 hC hst3 hk67 h
 have c70 := h7.at_.num.neg
 have c71 := h7.at_.num.abs
 have c73 := h7.at_.den.abs
 have f70 := h7.at_.num.known.frozen 0
 generalize hGg : Nat.gcd n d = G at *
 by_cases hG : G = 1
 ·rw [hG, cmpI_eq rfl]
  have h8 := h7.trans (h7.at_.putNeg s)
  have hst8 : StkNew (w7.setCell ⟨g, 0, none⟩ (.bool s)) w.heap.size := by
   unfold StkNew
   rw [blk_setCell_ne (by simp; omega)]
   exact hst7
  rw [hG] at hGg
  have hfin := Lib.hid (And.intro h8 hGg)
  clear h8 hGg h7
  go_wp2_with fail
  refine leaves_cons (by simp) rfl ?_
  refine (stkFreeNew _ _ hst8 _).mono ?_
  rintro e u w9 ⟨rfl, rfl, rfl⟩
  refine ⟨_, results_tmp rfl _ _ _, .slice pv (digs WB n).length kv, .slice pu (digs WB d).length ku, rfl, ?_⟩
  rw [hfin.out.2, Nat.div_one, Nat.div_one]
  exact hfin.out.1
 ·have hcm : ¬ cmpI G 1 = 0 := by unfold cmpI; rw [if_neg (by omega)]; split <;> omega
  generalize cmpI G 1 = cm at *
  go_wp2_with fail
  have cf := f7.abs
  rw [Nat.zero_add] at cf c71
  have hB7 : base ≤ w7.heap.size := by omega
  refine wp_region_noPanic ?_
  refine start_ (n := 24) (S := fun W => W.cell? ⟨g, 1, none⟩ = some (.slice pv (digs WB n).length kv) ∧ W.cell? ⟨gz, 1, none⟩ = some fv) (ds := [16, 23]) z127 (by kernel_rfl) rfl rfl ⟨c71, cf⟩ (fun hHeld => ?_)
  refine stq 0 64 z128 ?_
  refine stq 1 65 z129 ?_
  refine stq 2 66 z130 ?_
  refine stq 3 67 z131 ?_
  refine stq 4 68 z132 ?_
  refine take_ (i := 5) (N := some 69) (v := ?_) (a' := ?_) z133 rfl rfl (by kernel_rfl) (fun _ _ _ h => h) (Or.inl ⟨by rfl, ?_⟩) hHeld ?_ ?_
  rotate_left
  ·rintro w' ⟨s0, s1⟩; go_simp; try with_reducible rfl
  rotate_left
  ·simp only [Act.put, sA, sB, sC]; rfl
  refine stq 6 70 z134 ?_
  refine stq 7 71 z135 ?_
  refine stq 8 72 z136 ?_
  refine stq 9 73 z137 ?_
  refine stq 10 74 z138 ?_
  refine take_ (i := 11) (N := some 75) (v := ?_) (a' := ?_) z139 rfl rfl (by kernel_rfl) (fun _ _ _ h => h) (Or.inl ⟨by rfl, ?_⟩) hHeld ?_ ?_
  rotate_left
  ·rintro w' ⟨s0, s1⟩; go_simp; try with_reducible rfl
  rotate_left
  ·simp only [Act.put, sA, sB, sC]; rfl
  refine stq 12 76 z140 ?_
  refine stq 13 77 z141 ?_
  refine stq 14 78 z142 ?_
  refine take_ (i := 15) (N := some 79) (v := ?_) (a' := ?_) z143 rfl rfl (by kernel_rfl) (fun _ _ _ h => h) (Or.inl ⟨by rfl, ?_⟩) hHeld ?_ ?_
  rotate_left
  ·rintro w' ⟨s0, s1⟩; go_simp; try with_reducible rfl
  rotate_left
  ·simp only [Act.put, sA, sB, sC]; rfl
  refine last_ (i := 16) (N := some 80) z144 rfl rfl (by kernel_rfl) (by decide) (fun K hK => ?_)
  refine goes_ Tryz.func210 (by kernel_rfl) rfl #[.slice pv (digs WB n).length kv, .pointer (some ⟨w.heap.size, 0, none⟩), .slice none 0 0, .slice pv (digs WB n).length kv, fv] (by rfl) rfl rfl (by first | rfl | simp [Act.eval]) ?_
  refine (div_any w7.drew base base _ _ (.slice none 0 0) _ _ _ _ [] n G h7.at_.num.nat (.nil _ _) h7.at_.num.nat f7.nat (fun k _ h => by simp [Value.ownBlock] at h) hB7 hln hG1 (.inr (.inl (by omega))) (hTh.out w7.drew h7.keep.drew) hGB (.inr ⟨w.heap.size, rfl, hst7, hlG, Nat.le_trans hGB hB⟩)).mono ?_
  rintro e w8 ⟨qv, rv, rfl, hdv⟩
  have ho := hdv.toNat
  obtain ⟨pq, kq, rfl⟩ := NatRow.form ho.row
  have m1 := midRat h7.at_ ho (.inl rfl) 1 _ c71
  obtain ⟨m1a, m1b⟩ := m1
  refine ⟨_, rfl, ?_⟩
  refine hK.out _ _ ?_
  clear hK K
  try clear hHeld
  refine norm_ (a' := ?_) ?_ ?_
  rotate_left
  ·simp only [Act.put, sA, sB, sC]; rfl
  refine stq 17 63 z145 ?_
  refine stq 18 81 z146 ?_
  refine stq 19 82 z147 ?_
  refine stq 20 83 z148 ?_
  refine stq 21 84 z149 ?_
  refine stq 22 85 z150 ?_
  refine last_ (i := 23) (N := none) z151 rfl rfl (by kernel_rfl) (by decide) (fun K hK => ?_)
  refine skip_ (w1 := ?_) (by rfl) rfl ?_ ?_
  rotate_left
  ·go_simp; try rfl
  refine hK.out _ _ ?_
  clear hK K
  refine done_ (by kernel_rfl) ?_
  refine NoPanic.normal ?_
  have h8 := h7.trans (h7.at_.putNum ho)
  have k8 := (h7.at_.putNum ho).keep
  have f8 := f7.kept k8 (fun h => by rcases h with h | h | h; exact absurd h (by omega); have := hvl _ h; omega; have := hul _ h; omega) (fun k hk h => by
   have h1 := hown k hk
   rcases h with h | h | h
   ·omega
   ·have := hvl _ h; omega
   ·have := hul _ h; omega)
  have hst8 : StkNew (w8.setCell ⟨g, 1, none⟩ (.slice pq (digs WB (n / G)).length kq)) w.heap.size := k8.at_ hst7 (fun h => by
   rcases h with h | h | h
   ·omega
   ·exact NatRow.notNew h7.at_.num.nat hst7 h
   ·exact NatRow.notNew h7.at_.den.nat hst7 h)
  have s8 := k8.size
  generalize w8.setCell ⟨g, 1, none⟩ (.slice pq (digs WB (n / G)).length kq) = w9 at *
  have c83 := h8.at_.den.abs
  have cf8 := f8.abs
  rw [Nat.zero_add] at cf8
  have hB9 : base ≤ w9.heap.size := by omega
  have hn8 := h8.at_.ap
  go_wp2_with fail
  refine wp_region_noPanic ?_
  refine start_ (n := 24) (S := fun W => W.cell? ⟨g, 3, none⟩ = some (.slice pu (digs WB d).length ku) ∧ W.cell? ⟨gz, 1, none⟩ = some fv) (ds := [16, 23]) z127 (by kernel_rfl) rfl rfl ⟨c83, cf8⟩ (fun hHeld => ?_)
  refine stq 0 87 z128 ?_
  refine stq 1 88 z129 ?_
  refine stq 2 89 z130 ?_
  refine stq 3 90 z131 ?_
  refine stq 4 91 z132 ?_
  refine take_ (i := 5) (N := some 92) (v := ?_) (a' := ?_) z133 rfl rfl (by kernel_rfl) (fun _ _ _ h => h) (Or.inl ⟨by rfl, ?_⟩) hHeld ?_ ?_
  rotate_left
  ·rintro w' ⟨s0, s1⟩; go_simp; try with_reducible rfl
  rotate_left
  ·simp only [Act.put, sA, sB, sC]; rfl
  refine stq 6 93 z134 ?_
  refine stq 7 94 z135 ?_
  refine stq 8 95 z136 ?_
  refine stq 9 96 z137 ?_
  refine stq 10 97 z138 ?_
  refine take_ (i := 11) (N := some 98) (v := ?_) (a' := ?_) z139 rfl rfl (by kernel_rfl) (fun _ _ _ h => h) (Or.inl ⟨by rfl, ?_⟩) hHeld ?_ ?_
  rotate_left
  ·rintro w' ⟨s0, s1⟩; go_simp; try with_reducible rfl
  rotate_left
  ·simp only [Act.put, sA, sB, sC]; rfl
  refine stq 12 99 z140 ?_
  refine stq 13 100 z141 ?_
  refine stq 14 101 z142 ?_
  refine take_ (i := 15) (N := some 102) (v := ?_) (a' := ?_) z143 rfl rfl (by kernel_rfl) (fun _ _ _ h => h) (Or.inl ⟨by rfl, ?_⟩) hHeld ?_ ?_
  rotate_left
  ·rintro w' ⟨s0, s1⟩; go_simp; try with_reducible rfl
  rotate_left
  ·simp only [Act.put, sA, sB, sC]; rfl
  refine last_ (i := 16) (N := some 103) z144 rfl rfl (by kernel_rfl) (by decide) (fun K hK => ?_)
  refine goes_ Tryz.func210 (by kernel_rfl) rfl #[.slice pu (digs WB d).length ku, .pointer (some ⟨w.heap.size, 0, none⟩), .slice none 0 0, .slice pu (digs WB d).length ku, fv] (by rfl) rfl rfl (by first | rfl | simp [Act.eval]) ?_
  refine (div_any w9.drew base base _ _ (.slice none 0 0) _ _ _ _ [] d G h8.at_.den.nat (.nil _ _) h8.at_.den.nat f8.nat (fun k _ h => by simp [Value.ownBlock] at h) hB9 hld hG1 (.inr (.inl (by omega))) (hTh.out w9.drew h8.keep.drew) hGB (.inr ⟨w.heap.size, rfl, hst8, hlG, Nat.le_trans hGB hB⟩)).mono ?_
  rintro e w10 ⟨qv, rv, rfl, hdv⟩
  have ho2 := hdv.toNat
  obtain ⟨pq2, kq2, rfl⟩ := NatRow.form ho2.row
  obtain ⟨m2a, m2b⟩ := midRat h8.at_ ho2 (.inr rfl) 3 _ c83
  refine ⟨_, rfl, ?_⟩
  refine hK.out _ _ ?_
  clear hK K
  try clear hHeld
  refine norm_ (a' := ?_) ?_ ?_
  rotate_left
  ·simp only [Act.put, sA, sB, sC]; rfl
  refine stq 17 86 z145 ?_
  refine stq 18 104 z146 ?_
  refine stq 19 105 z147 ?_
  refine stq 20 106 z148 ?_
  refine stq 21 107 z149 ?_
  refine stq 22 108 z150 ?_
  refine last_ (i := 23) (N := none) z151 rfl rfl (by kernel_rfl) (by decide) (fun K hK => ?_)
  refine skip_ (w1 := ?_) (by rfl) rfl ?_ ?_
  rotate_left
  ·go_simp; try rfl
  refine hK.out _ _ ?_
  clear hK K
  refine done_ (by kernel_rfl) ?_
  refine NoPanic.normal ?_
  have h9 := h8.trans (h8.at_.putDen ho2)
  have k9 := (h8.at_.putDen ho2).keep
  have hst9 : StkNew (w10.setCell ⟨g, 3, none⟩ (.slice pq2 (digs WB (d / G)).length kq2)) w.heap.size := k9.at_ hst8 (fun h => by
   rcases h with h | h | h
   ·omega
   ·exact NatRow.notNew h8.at_.num.nat hst8 h
   ·exact NatRow.notNew h8.at_.den.nat hst8 h)
  generalize w10.setCell ⟨g, 3, none⟩ (.slice pq2 (digs WB (d / G)).length kq2) = w11 at *
  have c90 := h9.at_.num.neg
  have f90 := h9.at_.num.known.frozen 0
  have h10 := h9.trans (h9.at_.putNeg s)
  have hst10 : StkNew (w11.setCell ⟨g, 0, none⟩ (.bool s)) w.heap.size := by
   unfold StkNew
   rw [blk_setCell_ne (by simp; omega)]
   exact hst9
  have hfin := Lib.hid (And.intro h10 hGg)
  clear h10 h9 h8 hGg ho ho2
  go_wp2_with fail
  refine leaves_cons (by simp) rfl ?_
  refine (stkFreeNew _ _ hst10 _).mono ?_
  rintro e u w12 ⟨rfl, rfl, rfl⟩
  refine ⟨_, results_tmp rfl _ _ _, .slice pq (digs WB (n / G)).length kq, .slice pq2 (digs WB (d / G)).length kq2, rfl, ?_⟩
  rw [hfin.out.2]
  exact hfin.out.1
end Go.Proofs.YtgamldefngehlaaGreatDoor
