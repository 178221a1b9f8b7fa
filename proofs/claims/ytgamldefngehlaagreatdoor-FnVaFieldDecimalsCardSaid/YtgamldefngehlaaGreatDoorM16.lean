/- Parts of the walk. -/
import Derived.Test.YtgamldefngehlaaGreatDoorM10
import Derived.Test.YtgamldefngehlaaGreatDoorM12
import Derived.Test.YtgamldefngehlaaGreatDoorM15
set_option linter.unusedVariables false
set_option linter.unusedSimpArgs false
namespace Go.Proofs.YtgamldefngehlaaGreatDoor
open Go.RowKit
set_option maxRecDepth 100000 in
set_option maxHeartbeats 1000000 in
theorem divBig_any (w : World) (base bx by_ : Nat) (zv z2 xv yv stk : Value) (zs z2s : List Nat) (a b : Nat) (h : NatRow w base zv zs) (h2 : NatRow w base z2 z2s) (hx : NatAt w bx xv a) (hy : NatAt w by_ yv b) (hap : ∀ k, zv.ownBlock = some k → z2.ownBlock ≠ some k) (hB : base ≤ w.heap.size) (hl : (digs WB a).length ≤ 900) (hb : WB ≤ b) (hb4 : (digs WB b).length ≤ 4) (hab : b ≤ a) (hg : Thr w) (hGL : GL ≤ base)
  (hst : stk = .pointer none ∨ ∃ s, stk = .pointer (some ⟨s, 0, none⟩) ∧ StkNew w s ∧ (digs WB b).length ≤ 3 ∧ GL ≤ s) :
  Calls Tryz.prog 210 #[zv, stk, z2, xv, yv] w fun e w' => ∃ q r, e = .returned (.tuple #[q, r]) ∧ DivOut w w' base zv z2 q r a b := by
 have hl2 : 1 < (digs WB b).length := by
  rcases Nat.lt_or_ge 1 (digs WB b).length with h | h
  ·exact h
  ·have := (digs_length_le WB_one).1 h
   rw [Nat.pow_one] at this
   omega
 have hC := cmp_any w bx by_ xv yv a b hx hy (by omega) (by omega)
 have hcm : ¬ (cmpI a b) < 0 := by unfold cmpI; rw [if_neg (by omega)]; split <;> omega
 generalize cmpI a b = cm at *
 have hC := Lib.hid hC
 have hL := Lib.hid (fun (W : World) (s : Nat) (hk : Keeps (fun _ => False) w W) (hs : StkNew W s) (hsG : GL ≤ s) => divLarge_any W base bx by_ s zv z2 xv yv zs z2s a b (h.kept hk (fun _ _ h => h)) (h2.kept hk (fun _ _ h => h)) (NatRow.kept hx hk (fun _ _ h => h)) (NatRow.kept hy hk (fun _ _ h => h)) hap hs (Nat.le_trans hB hk.size) hl hb hb4 hab (hg.kept hk (fun _ _ h => h)) hGL hsG)
 obtain ⟨px, cx, rfl⟩ := NatRow.form hx
 obtain ⟨py, cy, rfl⟩ := NatRow.form hy
 have hz := Lib.hid (And.intro h.lt h2.lt)
 obtain ⟨m, hm⟩ : ∃ m, (digs WB b).length = m := ⟨_, rfl⟩
 rw [hm] at hl2
 have hm3 := Lib.hid hm
 generalize hxl : (digs WB a).length = l at *
 rw [hm] at hC hL hst ⊢
 have t1 : ((m : Int) == 0) = false := by simp; omega
 have t2 : ((m : Int) == 1) = false := by simp; omega
 clear h h2 hx hy hab hm hxl hb hl hb4
 rcases hst with rfl | ⟨s, rfl, hs, hs3, hsG⟩
 ·go_enter_defers Tryz.func210, Tryz.ntmps210
  go_wp2_with fail
  refine hC.out.mono ?_
  rintro e w1 ⟨rfl, q, rfl⟩
  go_wp2_with fail
  refine (getStack_any _).mono ?_
  rintro e w2 ⟨rfl, hst, hk⟩
  change StkNew w2 w.heap.size at hst
  have hk : Keeps (fun _ => False) w w2 := ⟨hk.os, hk.tape, hk.output, hk.size, hk.blk⟩
  have hLL := Lib.hid (hL.out w2 w.heap.size hk hst (Nat.le_trans hGL hB))
  have hk' := Lib.hid hk
  clear hst hk
  go_wp2_with fail
  refine hLL.out.mono ?_
  rintro e w3 ⟨qv, rv, rfl, hD⟩
  obtain ⟨B, hB1, hsi, hB2⟩ := hD.stk
  have hsi := Lib.hid hsi
  have hB2 := Lib.hid hB2
  have hB1 := Lib.hid hB1
  have hD := Lib.hid hD
  go_wp2_with fail
  refine leaves_cons (by simp) rfl ?_
  refine (stkFree _ _ _ hsi.out _).mono ?_
  rintro e u w4 ⟨rfl, rfl, hk4⟩
  obtain ⟨d1, d2, d3, d4, d5, d6, d7, d8⟩ := hD.out
  have hk2 := hk'.out
  have hB1 := hB1.out
  have hB2 := hB2.out
  have hzz := hz.out
  have hs2 := hk2.size
  refine ⟨.tuple #[qv, rv], by simp [results, Tryz.results210, go_sem], qv, rv, rfl, ⟨NatRow.kept d1 hk4 (fun k hk e => ?_), NatRow.kept d2 hk4 (fun k hk e => ?_), ((hk2.mono (fun _ _ x => x.elim)).trans d3 (fun k hk e => e.elim id (fun e => by omega))).trans hk4 (fun k hk e => by omega), fun k hk => (d4 k hk).imp id (fun h => Nat.le_trans hk2.size h), fun k hk => (d5 k hk).imp id (fun h => Nat.le_trans hk2.size h), d6⟩⟩
  ·have := hB2 k (.inl hk); omega
  ·have := hB2 k (.inr hk); omega
 ·go_enter_defers Tryz.func210, Tryz.ntmps210
  go_wp2_with fail
  refine hC.out.mono ?_
  rintro e w1 ⟨rfl, q, rfl⟩
  have hk : Keeps (fun _ => False) w (w.drewN q) := (Keeps.refl _ _).drewN q
  have hLL := Lib.hid (hL.out (w.drewN q) s hk hs hsG)
  have hk' := Lib.hid hk
  clear hk
  go_wp2_with fail
  refine hLL.out.mono ?_
  rintro e w3 ⟨qv, rv, rfl, hD⟩
  have hD := Lib.hid hD
  go_wp2_with fail
  obtain ⟨d1, d2, d3, d4, d5, d6, d7, d8⟩ := hD.out
  have hk2 := hk'.out
  have hs' : StkNew (w.drewN q) s := hs
  refine ⟨.tuple #[qv, rv], by simp [results, Tryz.results210, go_sem], qv, rv, rfl, ⟨d1, d2, ?_, d4, d5, d6⟩⟩
  have hkk := d3.dropStk hs' (d8 (by rw [hm3.out]; exact hs3))
  exact ⟨hkk.os, hkk.tape, hkk.output, hkk.size, hkk.blk⟩
theorem div_any (w : World) (base bx by_ : Nat) (zv z2 xv yv stk : Value) (zs z2s : List Nat) (a b : Nat) (h : NatRow w base zv zs) (h2 : NatRow w base z2 z2s) (hx : NatAt w bx xv a) (hy : NatAt w by_ yv b) (hap : ∀ k, zv.ownBlock = some k → z2.ownBlock ≠ some k) (hB : base ≤ w.heap.size) (hl : (digs WB a).length ≤ 900) (hb0 : b ≠ 0) (hb4 : b < WB ∨ (digs WB b).length ≤ 4 ∨ a < b ∧ (digs WB b).length ≤ 900)
  (hg : Thr w) (hGL : GL ≤ base) (hst : stk = .pointer none ∨ ∃ s, stk = .pointer (some ⟨s, 0, none⟩) ∧ StkNew w s ∧ (digs WB b).length ≤ 3 ∧ GL ≤ s) :
  Calls Tryz.prog 210 #[zv, stk, z2, xv, yv] w fun e w' => ∃ q r, e = .returned (.tuple #[q, r]) ∧ DivOut w w' base zv z2 q r a b := by
 by_cases h1 : b < WB
 ·exact divW_row w base bx by_ zv z2 xv yv stk zs z2s a b h h2 hx hy hap hB (by omega) hb0 h1
 ·by_cases h3 : a < b
  ·exact divLess_any w base bx by_ zv z2 xv yv stk zs z2s a b h h2 hx hy hap hB (by omega) (by omega) h3
  ·exact divBig_any w base bx by_ zv z2 xv yv stk zs z2s a b h h2 hx hy hap hB hl (by omega) (by omega) (by omega) hg hGL hst
end Go.Proofs.YtgamldefngehlaaGreatDoor
namespace Go.Proofs.YtgamldefngehlaaGreatDoor
open Go.RowKit
def DivFits (a b : Nat) : Prop := b < WB ∨ (digs WB b).length ≤ 4 ∨ a < b ∧ (digs WB b).length ≤ 900
theorem intQuoRem_all (w : World) (base bx by_ gz oz gx ox gy oy gr or_ nz nr a b : Nat) (sz sx sy sr : Bool) (zv xv yv rv : Value) (hz : IntAt w base gz oz sz zv nz) (hx : IntAt w bx gx ox sx xv a) (hy : IntAt w by_ gy oy sy yv b) (hr : IntAt w base gr or_ sr rv nr)
  (hap : ∀ k, zv.ownBlock = some k → rv.ownBlock ≠ some k) (hgz : Far gz oz gr or_) (hB : base ≤ w.heap.size) (hl : (digs WB a).length ≤ 900) (hb0 : b ≠ 0) (hb : DivFits a b) (hg : Thr w) (hGL : GL ≤ base) :
  Calls Tryz.prog 226 #[.pointer (some ⟨gz, oz, none⟩), .pointer (some ⟨gx, ox, none⟩), .pointer (some ⟨gy, oy, none⟩), .pointer (some ⟨gr, or_, none⟩)] w fun e w' => ∃ q r, e = .returned (.tuple #[.pointer (some ⟨gz, oz, none⟩), .pointer (some ⟨gr, or_, none⟩)]) ∧ QROut w w' base gz oz gr or_ zv rv q r (decide (a / b ≠ 0) && (sx != sy)) (decide (a % b ≠ 0) && sx) a b :=
 intQuoRem_of w base bx by_ gz oz gx ox gy oy gr or_ nz nr a b sz sx sy sr zv xv yv rv hz hx hy hr hap hgz hB (fun W hW => div_any W base bx by_ zv rv xv yv (.pointer none) _ _ a b (NatRow.kept hz.nat hW (fun _ _ h => h)) (NatRow.kept hr.nat hW (fun _ _ h => h)) (NatRow.kept hx.nat hW (fun _ _ h => h)) (NatRow.kept hy.nat hW (fun _ _ h => h)) hap (Nat.le_trans hB hW.size) hl hb0 hb (hg.kept hW (fun _ _ h => h)) hGL (.inl rfl))
theorem Quad.qr {w0 w w' : World} {gA gB gq gr a b nq nr x y : Nat} {sA sB sq sr s s' : Bool} {av bv qv rv q r : Value} (h : Quad w0 w (q4 gA gB gq gr) (q4 sA sB sq sr) (q4 av bv qv rv) (q4 a b nq nr)) (ho : QROut w w' w0.heap.size gq 0 gr 0 qv rv q r s s' x y) :
  Quad w0 w' (q4 gA gB gq gr) (q4 sA sB s s') (q4 av bv q r) (q4 a b (x / y) (x % y)) := by
 have h2 : IntAt w w0.heap.size gq 0 sq qv nq := h.at_ 2
 have h3 : IntAt w w0.heap.size gr 0 sr rv nr := h.at_ 3
 have other : ∀ i : Fin 4, i ≠ 2 → i ≠ 3 → ∀ {g : Nat} {t : Bool} {v : Value} {n : Nat}, IntAt w w0.heap.size g 0 t v n → g = q4 gA gB gq gr i → v = q4 av bv qv rv i → IntAt w' w0.heap.size g 0 t v n ∧ (∀ k, v.ownBlock = some k → q.ownBlock ≠ some k ∧ r.ownBlock ≠ some k) := by
  intro i i2 i3 g t v n hi eg ev
  have a2 : ∀ k, v.ownBlock = some k → qv.ownBlock ≠ some k := fun k hk => by rw [ev] at hk; exact h.ap i 2 i2 k hk
  have a3 : ∀ k, v.ownBlock = some k → rv.ownBlock ≠ some k := fun k hk => by rw [ev] at hk; exact h.ap i 3 i3 k hk
  refine ⟨hi.kept ho.keep (fun e => ?_) (fun k hk e => ?_), fun k hk => ⟨fun e => ?_, fun e => ?_⟩⟩
  ·rcases e with e | e | e | e
   ·exact h.ne i 2 i2 (eg ▸ e)
   ·exact h.ne i 3 i3 (eg ▸ e)
   ·exact NatRow.apart h2.nat hi.neg e
   ·exact NatRow.apart h3.nat hi.neg e
  ·rcases e with e | e | e | e
   ·exact NatRow.apart hi.nat h2.neg (by rw [hk, e])
   ·exact NatRow.apart hi.nat h3.neg (by rw [hk, e])
   ·exact a2 k hk e
   ·exact a3 k hk e
  ·rcases ho.ownq k e with h1 | h1
   ·exact a2 k hk h1
   ·have := (NatRow.lt hi.nat k hk).2; omega
  ·rcases ho.ownr k e with h1 | h1
   ·exact a3 k hk h1
   ·have := (NatRow.lt hi.nat k hk).2; omega
 obtain ⟨A1, A2⟩ := other 0 (by decide) (by decide) (h.at_ 0) rfl rfl
 obtain ⟨B1, B2⟩ := other 1 (by decide) (by decide) (h.at_ 1) rfl rfl
 have hab := h.ap 0 1 (by decide)
 have hge2 := h.ge 2
 have hge3 := h.ge 3
 refine ⟨fun i => ?_, h.ge, h.ne, fun i j hij k h1 e => ?_, h.keep.trans ho.keep (fun k hk e => ?_)⟩
 ·match i with
  | 0 => exact A1
  | 1 => exact B1
  | 2 => exact ho.quo
  | 3 => exact ho.rem
 ·match i, j with
  | 0, 0 => exact hij rfl
  | 0, 1 => exact hab k h1 e
  | 0, 2 => exact (A2 k h1).1 e
  | 0, 3 => exact (A2 k h1).2 e
  | 1, 0 => exact hab k e h1
  | 1, 1 => exact hij rfl
  | 1, 2 => exact (B2 k h1).1 e
  | 1, 3 => exact (B2 k h1).2 e
  | 2, 0 => exact (A2 k e).1 h1
  | 2, 1 => exact (B2 k e).1 h1
  | 2, 2 => exact hij rfl
  | 2, 3 => exact ho.apart k h1 e
  | 3, 0 => exact (A2 k e).2 h1
  | 3, 1 => exact (B2 k e).2 h1
  | 3, 2 => exact ho.apart k e h1
  | 3, 3 => exact hij rfl
 ·rcases e with e | e | e | e
  ·have : w0.heap.size ≤ gq := hge2; omega
  ·have : w0.heap.size ≤ gr := hge3; omega
  ·have := (NatRow.lt h2.nat k e).1; omega
  ·have := (NatRow.lt h3.nat k e).1; omega
theorem Quad.turn {w0 w : World} {gA gB gq gr a b nq nr : Nat} {sA sB sq sr : Bool} {av bv qv rv : Value} (h : Quad w0 w (q4 gA gB gq gr) (q4 sA sB sq sr) (q4 av bv qv rv) (q4 a b nq nr)) : Quad w0 w (q4 gB gr gq gA) (q4 sB sr sq sA) (q4 bv rv qv av) (q4 b nr nq a) := by
 have := h.perm (q4 1 3 2 0) (by decide)
 rwa [q4_ext (fun i => q4 gA gB gq gr (q4 1 3 2 0 i)), q4_ext (fun i => q4 sA sB sq sr (q4 1 3 2 0 i)), q4_ext (fun i => q4 av bv qv rv (q4 1 3 2 0 i)), q4_ext (fun i => q4 a b nq nr (q4 1 3 2 0 i))] at this
theorem Quad.swap {w0 w : World} {gA gB gq gr a b nq nr : Nat} {sA sB sq sr : Bool} {av bv qv rv : Value} (h : Quad w0 w (q4 gA gB gq gr) (q4 sA sB sq sr) (q4 av bv qv rv) (q4 a b nq nr)) : Quad w0 w (q4 gB gA gq gr) (q4 sB sA sq sr) (q4 bv av qv rv) (q4 b a nq nr) := by
 have := h.perm (q4 1 0 2 3) (by decide)
 rwa [q4_ext (fun i => q4 gA gB gq gr (q4 1 0 2 3 i)), q4_ext (fun i => q4 sA sB sq sr (q4 1 0 2 3 i)), q4_ext (fun i => q4 av bv qv rv (q4 1 0 2 3 i)), q4_ext (fun i => q4 a b nq nr (q4 1 0 2 3 i))] at this
set_option maxRecDepth 100000 in
theorem euclidQ_any (w0 w : World) (gA gB gq gr a b nq nr : Nat) (sq sr : Bool) (av bv qv rv : Value) (h : Quad w0 w (q4 gA gB gq gr) (q4 false false sq sr) (q4 av bv qv rv) (q4 a b nq nr)) (hl : (digs WB a).length ≤ 900) (hb0 : b ≠ 0) (hb : DivFits a b) (hg : Thr w) (hGL : GL ≤ w0.heap.size) :
  Calls Tryz.prog 256 #[.pointer (some ⟨gA, 0, none⟩), .pointer (some ⟨gB, 0, none⟩), .pointer none, .pointer none, .pointer (some ⟨gq, 0, none⟩), .pointer (some ⟨gr, 0, none⟩), .bool false] w fun e w' =>
   e = .returned (.tuple #[.pointer (some ⟨gB, 0, none⟩), .pointer (some ⟨gr, 0, none⟩), .pointer (some ⟨gA, 0, none⟩), .pointer none, .pointer none]) ∧ ∃ nq' sq' qv' rv', Quad w0 w' (q4 gB gr gq gA) (q4 false false sq' false) (q4 bv rv' qv' av) (q4 b (a % b) nq' a) := by
 have hQ := Lib.hid (intQuoRem_all w w0.heap.size w0.heap.size w0.heap.size gq 0 gA 0 gB 0 gr 0 nq nr a b sq false false sr qv av bv rv (h.at_ 2) (h.at_ 0) (h.at_ 1) (h.at_ 3) (h.ap 2 3 (by decide)) (.inl (h.ne 2 3 (by decide))) h.keep.size hl hb0 hb hg hGL)
 have hh := Lib.hid h
 clear h
 go_enter Tryz.func256, Tryz.ntmps256
 go_wp2_with fail
 refine hQ.out.mono ?_
 rintro e w1 ⟨q, r, rfl, ho⟩
 have h1 := (hh.out.qr ho).turn
 rw [show (decide (a % b ≠ 0) && false) = false by simp] at h1
 have h1 := Lib.hid h1
 clear ho
 go_wp2_with fail
 refine bodyPost_ret (v := .tuple #[.pointer (some ⟨gB, 0, none⟩), .pointer (some ⟨gr, 0, none⟩), .pointer (some ⟨gA, 0, none⟩), .pointer none, .pointer none]) (by simp [results, Tryz.results256, go_sem]) rfl ?_
 exact ⟨rfl, _, _, _, _, h1.out⟩
end Go.Proofs.YtgamldefngehlaaGreatDoor
