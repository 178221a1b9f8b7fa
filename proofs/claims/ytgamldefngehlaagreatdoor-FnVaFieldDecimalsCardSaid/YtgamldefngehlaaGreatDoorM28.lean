/- Parts of the walk. -/
import Derived.Test.YtgamldefngehlaaGreatDoorM02
import Derived.Test.YtgamldefngehlaaGreatDoorM21
import Derived.Test.YtgamldefngehlaaGreatDoorM22
import Derived.Test.YtgamldefngehlaaGreatDoorM26
import Derived.Test.YtgamldefngehlaaGreatDoorM27
import Derived.StillTailTactics
set_option linter.unusedVariables false
set_option linter.unusedSimpArgs false
namespace Go.Proofs.YtgamldefngehlaaGreatDoor
open Go.RowKit
open Go.Proofs.YtgamldefngehlaaGreatDoorW.PrintLast
set_option maxRecDepth 100000 in
theorem ratOf_any (w : World) (neg : Bool) (v u : Value) (xs ys : List Nat) (h : BytesIn w v xs) (hd : BytesIn w u ys) (hn : xs.length ≤ 400) (hm : ys.length ≤ 400) (hy : beVal ys ≠ 0) (hs : (digs WB (beVal xs)).length ≤ 3 ∨ (digs WB (beVal ys)).length ≤ 3)
  (hlx : (digs WB (beVal xs)).length ≤ 900) (hly : (digs WB (beVal ys)).length ≤ 900) (hg : Thr w) (hGL : GL ≤ w.heap.size) :
  Calls Tryz.prog 39 #[.agg #[.bool neg, v, u]] w fun e w' => ∃ g v' u', e = .returned (.tuple #[.pointer (some ⟨g, 0, none⟩), .bool true]) ∧ RatNew w w' g (neg && decide (beVal xs ≠ 0)) v' u' (beVal xs / Nat.gcd (beVal xs) (beVal ys)) (beVal ys / Nat.gcd (beVal xs) (beVal ys)) := by
 obtain ⟨pv, cv, rfl, -⟩ := id h
 obtain ⟨pu, cu, rfl, -⟩ := id hd
 have k0 := (Keeps.refl (fun _ => False) w).alloc (.cells #[.bool neg, .slice pv xs.length cv, .slice pu ys.length cu] 40)
 have hb0 := blk_new w (.cells #[.bool neg, .slice pv xs.length cv, .slice pu ys.length cu] 40 (0, 0))
 have c2 : (w.alloc (.cells #[.bool neg, .slice pv xs.length cv, .slice pu ys.length cu] 40)).cell? ⟨w.heap.size, 2, none⟩ = some (.slice pu ys.length cu) := by rw [cellOf hb0]; rfl
 have hl0 : w.heap.size < (w.alloc (.cells #[.bool neg, .slice pv xs.length cv, .slice pu ys.length cu] 40)).heap.size := sizeOf_blk hb0
 have hlx' := hlx
 have hgH := Lib.hid (And.intro hg hGL)
 clear hg hGL
 have h1 := Lib.hid (bigOf_any (w.alloc (.cells #[.bool neg, .slice pv xs.length cv, .slice pu ys.length cu] 40)) neg _ xs (h.kept k0) hn)
 have hd := hd.kept k0
 clear hb0
 have hd' := Lib.hid hd
 have hc2 := Lib.hid c2
 clear c2
 clear h hd
 generalize hX : beVal xs = X at *
 generalize hY : beVal ys = Y at *
 go_enter Tryz.func39, Tryz.ntmps39
 go_wp2_with fail
 refine h1.out.mono ?_
 rintro e w1 ⟨ga, av, rfl, hA⟩
 have c2' := hA.keep.cellS hc2.out (fun h => h)
 have h2 := bigOf_any w1 false _ ys (hd'.out.kept hA.keep) hm
 rw [hY] at h2
 replace h2 := Lib.hid h2
 replace hA := Lib.hid hA
 clear h1 hc2 hd hd' hl0 hX hY hm hn hlx
 have hlx := Lib.hid hlx'
 go_wp2_with fail
 refine h2.out.mono ?_
 rintro e w2 ⟨gb, bv, rfl, hB⟩
 replace hA := hA.out
 have hat := hA.at_.kept hB.keep (fun h => h) (fun _ _ h => h)
 have hS := Lib.hid (intSign_any w2 w1.heap.size gb 0 Y (false && decide (Y ≠ 0)) bv hB.at_ (by simp))
 have k2 := (Keeps.refl (fun _ => False) w2).alloc (.cells #[.bool false, .slice none 0 0, .bool false, .slice none 0 0] 141)
 have hF := setFrac_any (w2.alloc (.cells #[.bool false, .slice none 0 0, .bool false, .slice none 0 0] 141)) w.heap.size _ _ w2.heap.size ga 0 gb 0 X Y _ _ false av bv (newRatAt w2 w.heap.size) (hat.kept k2 (fun h => h) (fun _ _ h => h)) (hB.at_.kept k2 (fun h => h) (fun _ _ h => h)) (by have := hat.known.lt; omega) (by have := hB.at_.known.lt; omega) (Nat.le_trans (Nat.le_trans (Nat.le_trans k0.size hA.keep.size) hB.keep.size) k2.size) hy ⟨hs, hlx.out, hly, hgH.out.1.kept (((k0.trans hA.keep (fun _ _ h => h)).trans hB.keep (fun _ _ h => h)).trans k2 (fun _ _ h => h)) (fun _ _ h => h), hgH.out.2, Nat.le_trans hgH.out.2 (Nat.le_trans (Nat.le_trans k0.size hA.keep.size) hB.keep.size)⟩
 replace hF := Lib.hid hF
 have hkk : Keeps (fun _ => False) w (w2.alloc (.cells #[.bool false, .slice none 0 0, .bool false, .slice none 0 0] 141)) := ((k0.trans hA.keep (fun _ _ h => h)).trans hB.keep (fun _ _ h => h)).trans k2 (fun _ _ h => h)
 have hsz : w.heap.size ≤ w2.heap.size := Nat.le_trans (Nat.le_trans k0.size hA.keep.size) hB.keep.size --.size hB.keep.size
 clear hA hB hat k2 c2' hlx hly hs k0 h2
 have hsg : ((if Y = 0 then 0 else if (false && decide (Y ≠ 0)) = true then -1 else 1 : Int)) = 1 := by rw [if_neg hy]; simp
 rw [hsg] at hS
 clear hy hsg
 go_wp2_with fail
 refine hS.out.mono ?_
 rintro e w3 ⟨rfl, hw3⟩
 obtain rfl := hw3.symm
 go_wp2_with fail
 refine hF.out.mono ?_
 rintro e w3 ⟨v', u', rfl, ho⟩
 have hfin := Lib.hid (ho.new hkk hsz)
 clear ho
 go_wp2_with fail
 go_ret2
 refine ⟨_, v', u', rfl, ?_⟩
 have := hfin.out
 have e2 : (decide (X ≠ 0) && (neg && decide (X ≠ 0)) != (false && decide (Y ≠ 0))) = (neg && decide (X ≠ 0)) := by cases neg <;> cases decide (X ≠ 0) <;> rfl
 rw [e2] at this
 exact this
theorem bigStruct : ∃ fs, Tryz.prog.underlying 24 = some (.struct fs) := by
 have h : (Tryz.prog.underlying 24).map (fun d => match d with | .struct _ => true | _ => false) = some true := by kernel_rfl
 cases hd : Tryz.prog.underlying 24 with
 | none => simp [hd] at h
 | some d => cases d <;> simp_all
theorem ratStruct : ∃ fs, Tryz.prog.underlying 40 = some (.struct fs) := by
 have h : (Tryz.prog.underlying 40).map (fun d => match d with | .struct _ => true | _ => false) = some true := by kernel_rfl
 cases hd : Tryz.prog.underlying 40 with
 | none => simp [hd] at h
 | some d => cases d <;> simp_all
theorem bigSize {cs : Array Value} (h : cs.size = 2) : (Tryz.prog.info? 24).map (·.size) = some cs.size := by rw [h]; kernel_rfl
theorem ratSize {cs : Array Value} (h : cs.size = 3) : (Tryz.prog.info? 40).map (·.size) = some cs.size := by rw [h]; kernel_rfl
theorem results_big (w : World) (b : Nat) (v : Array Value) (hv : v.size = 2) (hb : w.heap[b]? = some (.cells v 24 (0, 0))) (tmps : Array Value) (h2 : tmps.getD 2 undef = .pointer (some ⟨b, 0, none⟩)) :
  (results Tryz.f102 tmps).run Tryz.prog w = .ok (.agg v) w := by
 obtain ⟨fs, hu⟩ := bigStruct
 exact results_cell_row Tryz.results102 tmps w b 24 v (0, 0) _ h2 hb hu rfl (bigSize hv)
theorem results_rat (w : World) (b : Nat) (v : Array Value) (hv : v.size = 3) (hb : w.heap[b]? = some (.cells v 40 (0, 0))) (tmps : Array Value) (h2 : tmps.getD 2 undef = .pointer (some ⟨b, 0, none⟩)) :
  (results Tryz.f52 tmps).run Tryz.prog w = .ok (.agg v) w := by
 obtain ⟨fs, hu⟩ := ratStruct
 exact results_cell_row Tryz.results52 tmps w b 40 v (0, 0) _ h2 hb hu rfl (ratSize hv)
set_option maxRecDepth 100000 in
theorem bigBack_any (w : World) (base g o a : Nat) (s : Bool) (v : Value) (h : IntAt w base g o s v a) (hs : s = true → a ≠ 0) (hle : (digs WB a).length ≤ 1000) :
  Calls Tryz.prog 102 #[.pointer (some ⟨g, o, none⟩)] w fun e w' => ∃ b p c : Nat, e = .returned (.agg #[.bool s, .slice (some ⟨b, p, none⟩) (beB a).length c]) ∧ (beB a).length ≤ c ∧ VecB w' b p (beB a) ∧ w.heap.size ≤ b ∧ Keeps (fun _ => False) w w' := by
 have k0 := (Keeps.refl (fun _ => False) w).alloc (.cells #[.bool false, .slice none 0 0] 24)
 have hb0 := blk_new w (.cells #[.bool false, .slice none 0 0] 24 (0, 0))
 have h0 := h.kept k0 (fun h => h) (fun _ _ h => h)
 have hS := Lib.hid (intSign_any _ base g o a s v h0 hs)
 have hB := Lib.hid (intBytes_any _ base g o a s v h0 hle)
 have hx : (if a = 0 then 0 else if s = true then -1 else 1 : Int) < 0 ↔ s = true := by
  cases s
  ·by_cases e : a = 0 <;> simp [e]
  ·have := hs rfl; simp [this]
 generalize (if a = 0 then 0 else if s = true then -1 else 1 : Int) = x at *
 clear h hs hle h0
 have hb0 := Lib.hid hb0
 have k0 := Lib.hid k0
 have hl0 := sizeOf_blk hb0.out
 have e1 : ∀ W : World, (W = W.drew) → True := fun _ _ => trivial
 go_enter Tryz.func102, Tryz.ntmps102
 go_wp2_with fail
 refine hS.out.mono ?_
 rintro e w1 ⟨rfl, hw1⟩
 obtain rfl := hw1.symm
 go_wp2_with fail
 refine hB.out.mono ?_
 rintro e w1 ⟨b, p, c, rfl, hc, hv, hlb, hk⟩
 have hb1 := hk.blk w.heap.size hl0 (fun h => h)
 rw [hb0.out] at hb1
 have hk := Lib.hid hk
 have hv := Lib.hid hv
 have hlb := Lib.hid hlb
 have hc := Lib.hid hc
 have f0 := frozenOf hb1
 have c0 : w1.cell? ⟨w.heap.size, 0, none⟩ = some (.bool false) := by rw [cellOf hb1]; rfl
 have c1 : w1.cell? ⟨w.heap.size, 1, none⟩ = some (.slice none 0 0) := by rw [cellOf hb1]; rfl
 go_wp2_with fail
 have hb3 := blk_setCell (blk_setCell hb1 0 (.bool s)) 1 (.slice (some ⟨b, p, none⟩) (beB a).length c)
 have hne : b ≠ w.heap.size := by have := hlb.out; omega
 have kk : Keeps (fun k => k = w.heap.size) w1 ((w1.setCell ⟨w.heap.size, 0, none⟩ (.bool s)).setCell ⟨w.heap.size, 1, none⟩ (.slice (some ⟨b, p, none⟩) (beB a).length c)) :=
  ((Keeps.refl (fun k => k = w.heap.size) w1).setCell _ _ (fun _ => rfl)).setCell _ _ (fun _ => rfl)
 exact ⟨rfl, _, results_big _ _ _ rfl hb3 _ rfl, ⟨b, p, c, rfl, hc.out, fun j hj => kk.cellS (hv.out j hj) (fun h => hne h), Nat.le_trans k0.out.size hlb.out, (k0.out.trans hk.out (fun _ _ h => h)).trans kk (fun k hk e => by omega)⟩⟩
set_option maxRecDepth 100000 in
theorem ratBack_any (w : World) (base g n d : Nat) (s : Bool) (v u : Value) (h : RatAt w base g s false v u n d) (hs : s = true → n ≠ 0) (hd : d ≠ 0) (hle : (digs WB n).length ≤ 1000) (hle2 : (digs WB d).length ≤ 1000) :
  Calls Tryz.prog 52 #[.pointer (some ⟨g, 0, none⟩)] w fun e w' => ∃ b p c b' p' c' : Nat, e = .returned (.agg #[.bool s, .slice (some ⟨b, p, none⟩) (beB n).length c, .slice (some ⟨b', p', none⟩) (beB d).length c']) ∧ (beB n).length ≤ c ∧ VecB w' b p (beB n) ∧ w.heap.size ≤ b ∧ (beB d).length ≤ c' ∧ VecB w' b' p' (beB d) ∧ w.heap.size ≤ b' ∧ Keeps (fun _ => False) w w' := by
 have k0 := (Keeps.refl (fun _ => False) w).alloc (.cells #[.bool false, .slice none 0 0, .slice none 0 0] 40)
 have hb0 := blk_new w (.cells #[.bool false, .slice none 0 0, .slice none 0 0] 40 (0, 0))
 have h0 := h.kept k0 (fun h => h) (fun _ _ h => h) (fun _ _ h => h)
 have hN := Lib.hid (ratNum_any (w.alloc (.cells #[.bool false, .slice none 0 0, .slice none 0 0] 40)) g)
 have hB := Lib.hid (bigBack_any _ base g 0 n s v h0.num hs hle)
 have h0 := Lib.hid h0
 have hb0 := Lib.hid hb0
 have k0 := Lib.hid k0
 have hl0 := sizeOf_blk hb0.out
 clear h hs hle
 go_enter Tryz.func52, Tryz.ntmps52
 go_wp2_with fail
 refine hN.out.mono ?_
 rintro e w1 ⟨rfl, hw1⟩
 obtain rfl := hw1.symm
 go_wp2_with fail
 refine hB.out.mono ?_
 rintro e w1 ⟨b, p, c, rfl, hc, hv, hlb, hk⟩
 have h1 := h0.out.kept hk (fun h => h) (fun _ _ h => h) (fun _ _ h => h)
 have hD := Lib.hid (ratDenom_any w1 base g n d s false v u h1 hd)
 have hE := Lib.hid (intBytes_any w1 base g 2 d false u h1.den hle2)
 have hb1 := hk.blk w.heap.size hl0 (fun h => h)
 rw [hb0.out] at hb1
 replace hb1 := Lib.hid hb1
 replace hk := Lib.hid hk
 replace hv := Lib.hid hv
 replace hlb := Lib.hid hlb
 replace hc := Lib.hid hc
 clear h1 hd hle2
 go_wp2_with fail
 refine hD.out.mono ?_
 rintro e w2 ⟨rfl, hw2⟩
 obtain rfl := hw2.symm
 go_wp2_with fail
 refine hE.out.mono ?_
 rintro e w2 ⟨b', p', c', rfl, hc', hv', hlb', hk'⟩
 have hb2 := hk'.blk w.heap.size (Nat.lt_of_lt_of_le hl0 hk.out.size) (fun h => h)
 rw [hb1.out] at hb2
 replace hk' := Lib.hid hk'
 replace hv' := Lib.hid hv'
 replace hlb' := Lib.hid hlb'
 replace hc' := Lib.hid hc'
 have f0 := frozenOf hb2
 have c0 : w2.cell? ⟨w.heap.size, 0, none⟩ = some (.bool false) := by rw [cellOf hb2]; rfl
 have c1 : w2.cell? ⟨w.heap.size, 1, none⟩ = some (.slice none 0 0) := by rw [cellOf hb2]; rfl
 have c2 : w2.cell? ⟨w.heap.size, 2, none⟩ = some (.slice none 0 0) := by rw [cellOf hb2]; rfl
 go_wp2_with fail
 have hb3 := blk_setCell (blk_setCell (blk_setCell hb2 0 (.bool s)) 1 (.slice (some ⟨b, p, none⟩) (beB n).length c)) 2 (.slice (some ⟨b', p', none⟩) (beB d).length c')
 have hne : b ≠ w.heap.size := by have := hlb.out; omega
 have hne' : b' ≠ w.heap.size := by have := hlb'.out; have := hk.out.size; omega
 have kk : Keeps (fun k => k = w.heap.size) w2 (((w2.setCell ⟨w.heap.size, 0, none⟩ (.bool s)).setCell ⟨w.heap.size, 1, none⟩ (.slice (some ⟨b, p, none⟩) (beB n).length c)).setCell ⟨w.heap.size, 2, none⟩ (.slice (some ⟨b', p', none⟩) (beB d).length c')) :=
  (((Keeps.refl (fun k => k = w.heap.size) w2).setCell _ _ (fun _ => rfl)).setCell _ _ (fun _ => rfl)).setCell _ _ (fun _ => rfl)
 have k01 := k0.out.trans hk.out (fun _ _ h => h)
 exact ⟨rfl, _, results_rat _ _ _ rfl hb3 _ rfl, ⟨b, p, c, b', p', c', rfl, hc.out, fun j hj => kk.cellS (hk'.out.cellS (hv.out j hj) (fun h => h)) (fun h => hne h), Nat.le_trans k0.out.size hlb.out, hc'.out, fun j hj => kk.cellS (hv'.out j hj) (fun h => hne' h), Nat.le_trans k01.size hlb'.out, (k01.trans hk'.out (fun _ _ h => h)).trans kk (fun k hk e => by omega)⟩⟩
end Go.Proofs.YtgamldefngehlaaGreatDoor
namespace Go.Proofs.YtgamldefngehlaaGreatDoor
open Go.RowKit
theorem Thr.below {w w' : World} {B : Nat} (h : Thr w) (hb : Below B w w') (hB : GL ≤ B) : Thr w' :=
 h.kept (T := fun k => B ≤ k) ⟨hb.os, hb.tape, hb.output, hb.size, fun k hk hT => hb.block k (by omega)⟩ (fun k hk h => by omega)
theorem strip10 : ∀ n, n ≠ 0 → ∃ M z, M % 10 ≠ 0 ∧ M * 10 ^ z = n := by
 intro n
 induction n using Nat.strongRecOn with
 | _ n ih =>
  intro h
  by_cases h10 : n % 10 = 0
  ·obtain ⟨M, z, h1, h2⟩ := ih (n / 10) (by omega) (by omega)
   exact ⟨M, z + 1, h1, by rw [Nat.pow_succ, ← Nat.mul_assoc, h2]; omega⟩
  ·exact ⟨n, 0, h10, by simp⟩
theorem uniq10L {M M' a k : Nat} (h : M * 10 ^ a = M' * 10 ^ (a + (k + 1))) : M % 10 = 0 := by
 have : M = M' * 10 ^ k * 10 := Nat.eq_of_mul_eq_mul_right (ten_pos a) (by rw [h, Nat.pow_add, Nat.pow_succ]; ac_rfl)
 rw [this]; exact Nat.mul_mod_left _ _
theorem uniq10 {M M' a b : Nat} (h : M * 10 ^ a = M' * 10 ^ b) (h1 : M % 10 ≠ 0) (h2 : M' % 10 ≠ 0) : M = M' ∧ a = b := by
 rcases Nat.lt_trichotomy a b with h3 | h3 | h3
 ·obtain ⟨k, rfl⟩ : ∃ k, b = a + (k + 1) := ⟨b - a - 1, by omega⟩
  exact absurd (uniq10L h) h1
 ·subst h3; exact ⟨Nat.eq_of_mul_eq_mul_right (ten_pos a) h, rfl⟩
 ·obtain ⟨k, rfl⟩ : ∃ k, a = b + (k + 1) := ⟨a - b - 1, by omega⟩
  exact absurd (uniq10L h.symm) h2
theorem DecOf.uniq {wm k1 k2 M X M' X' : Nat} (h : DecOf wm k1 k2 M X) (h' : DecOf wm k1 k2 M' X') : M = M' ∧ X = X' := by
 obtain ⟨j, t, e1, e2⟩ := h.eq
 obtain ⟨j', t', e3, e4⟩ := h'.eq
 have : M * 10 ^ (j + t') = M' * 10 ^ (j' + t) := by
  rw [Nat.pow_add, ← Nat.mul_assoc, e1, Nat.pow_add, ← Nat.mul_assoc, e3]; ac_rfl
 obtain ⟨rfl, h5⟩ := uniq10 this h.m10 h'.m10
 exact ⟨rfl, by omega⟩
theorem DecOf.ex {wm k1 k2 : Nat} (h0 : wm ≠ 0) (hw : wm < 10 ^ 34) (h1 : k1 ≤ 60) (h2 : k2 ≤ 60) : ∃ M X, DecOf wm k1 k2 M X := by
 obtain ⟨M, z, h3, h4⟩ := strip10 wm h0
 obtain ⟨X, _, h⟩ := DecOf.of (wm := wm) (M := M) (j := z) (t := 0) h1 h2 hw (by rintro rfl; simp at h3) h3 (by simpa using h4) rfl
 exact ⟨M, X, h⟩
structure DecArg (w : World) (br gr n d wm k1 k2 M X : Nat) (s : Bool) (v u : Value) : Prop where
 rat : RatAt w br gr s false v u n d
 wlt : wm < 256 ^ 14
 kind : (CvIn n d wm k1 k2 ∧ DecOf wm k1 k2 M X) ∨ (n = 0 ∧ s = false ∧ M = 0 ∧ X = 6176)
theorem decFieldE (w : World) (base E S W br gr n d wm k1 k2 M X : Nat) (tr v u : Value) (xs : List Int) (s : Bool) (h : EncAt w base E S W tr xs) (ha : DecArg w br gr n d wm k1 k2 M X s v u) (hg : Thr w) (hGL : GL ≤ w.heap.size) (hxl : xs.length ≤ 900000) :
  Calls Tryz.prog 84 #[.pointer (some ⟨E, 0, none⟩), .iface 93 (.pointer (some ⟨gr, 0, none⟩))] w fun e w' => e = .returned .nilIface ∧ EncAt w' base E S W tr (xs ++ decB s M X) ∧ Below base w w' := by
 rcases ha.kind with ⟨hI, hD⟩ | ⟨rfl, rfl, rfl, rfl⟩
 ·refine (decField_any w base E S W br gr n d wm k1 k2 tr v u xs s h ha.rat hI ha.wlt hg hGL hxl).mono ?_
  rintro e w' ⟨M', X', h1, h2, h3, h4⟩
  obtain ⟨rfl, rfl⟩ := hD.uniq h4
  exact ⟨h1, h2, h3⟩
 ·exact decField_zero w base E S W br gr d tr v u xs h ha.rat hxl
theorem decB_get (s : Bool) (M X j : Nat) (hj : j < 14) (h : j < (decB s M X).length) : (decB s M X)[j] = ((M / 256 ^ j % 256 : Nat) : Int) := by
 have h' : j < (leB (M : Int) 16).length := by rw [leB_length]; omega
 have h1 : (decB s M X)[j]? = (leB (M : Int) 16)[j]? := by unfold decB; rw [List.getElem?_set_ne (by omega), List.getElem?_set_ne (by omega)]
 rw [List.getElem?_eq_getElem h, List.getElem?_eq_getElem h', leB_get] at h1
 rw [Option.some.inj h1, Int.natCast_emod, Int.natCast_ediv, Int.natCast_pow]
 rfl
theorem decB_len (s : Bool) (M X : Nat) : (decB s M X).length = 16 := by unfold decB; rw [List.length_set, List.length_set, leB_length]
theorem decD_any (w : World) (base D S rb ro n c : Nat) (tr : Value) (dfv emp : Bool) (k : Nat) (bs : List Int) (s : Bool) (M X : Nat) (hx : (bs.drop k).take 16 = decB s M X) (hX : 6116 ≤ X ∧ X < 6271) (hM : M < 256 ^ 14)
  (h : DecAt w base D S rb ro n c tr dfv emp k) (hin : Input w rb ro n c bs) (hkm : k + 16 ≤ n) (hg : Thr w) (hGL : GL ≤ base) (hbw : base ≤ w.heap.size) :
  Calls Tryz.prog 121 #[.pointer (some ⟨D, 0, none⟩)] w fun e w' =>
   ∃ g v u, e = .returned (.tuple #[.iface 93 (.pointer (some ⟨g, 0, none⟩)), .nilIface]) ∧ RatAt w' w.heap.size g (decide (M ≠ 0) && s) false v u (M * 10 ^ ((X : Int) - 6176).toNat) (10 ^ (-((X : Int) - 6176)).toNat) ∧ w.heap.size ≤ g ∧ DecAt w' base D S rb ro n c tr dfv emp (k + 16) ∧ Below base w w' := by
 have hlen := decB_len s M X
 have hget : ∀ j (h : k + j < bs.length) (hj : j < 16), bs[k + j] = (decB s M X)[j]'(by omega) := by
  intro j h hj
  have h1 : ((bs.drop k).take 16)[j]? = (decB s M X)[j]? := by rw [hx]
  rw [List.getElem?_take, if_pos hj, List.getElem?_drop, List.getElem?_eq_getElem h, List.getElem?_eq_getElem (by omega)] at h1
  exact Option.some.inj h1
 have hlo := h.lo
 refine (decFieldD_any w base D S rb ro n c tr dfv emp k bs s M X (2 * (X % 128)) (X / 128 + (if s = true then 128 else 0)) (fun j => M / 256 ^ j % 256) hX rfl rfl (fun j h hj => by rw [hget j h (by omega), decB_get s M X j hj]) (fun h => by rw [hget 14 h (by omega)]; simp [decB]) (fun h => by rw [hget 15 h (by omega)]; simp [decB]) (fun _ => rfl) hM h hin hkm hg (by omega) (by omega)).mono ?_
 rintro e w' ⟨g, v, u, h1, h2, h3, h4, h5⟩
 exact ⟨g, v, u, h1, h2, h3, h4, h5.below hbw (fun k _ hT => by rcases hT with rfl | rfl <;> omega)⟩
set_option maxRecDepth 100000 in
theorem anyOf7 (w : World) (b : Bool) (i : Int) (f : Nat) (bs : Value) (s : ByteArray) (neg : Bool) (v u : Value) (xs ys : List Nat) (h : BytesIn w v xs) (hd : BytesIn w u ys) (hn : xs.length ≤ 400) (hm : ys.length ≤ 400) (hy : beVal ys ≠ 0) (hs : (digs WB (beVal xs)).length ≤ 3 ∨ (digs WB (beVal ys)).length ≤ 3)
  (hlx : (digs WB (beVal xs)).length ≤ 900) (hly : (digs WB (beVal ys)).length ≤ 900) (hg : Thr w) (hGL : GL ≤ w.heap.size) :
  Calls Tryz.prog 18 #[.agg (valCells 7 b i f bs s neg v u)] w fun e w' => ∃ g v' u', e = .returned (.tuple #[.iface 93 (.pointer (some ⟨g, 0, none⟩)), .bool true]) ∧ RatNew w w' g (neg && decide (beVal xs ≠ 0)) v' u' (beVal xs / Nat.gcd (beVal xs) (beVal ys)) (beVal ys / Nat.gcd (beVal xs) (beVal ys)) := by
 have k0 := (Keeps.refl (fun _ => False) w).alloc (.cells (valCells 7 b i f bs s neg v u) 49)
 have hR := Lib.hid (ratOf_any (w.alloc (.cells (valCells 7 b i f bs s neg v u) 49)) neg v u xs ys (h.kept k0) (hd.kept k0) hn hm hy hs hlx hly (hg.kept k0 (fun _ _ h => h)) (Nat.le_trans hGL k0.size))
 have k0 := Lib.hid k0
 clear h hd hn hm hy hs hlx hly hg hGL
 go_enter Tryz.func18, Tryz.ntmps18
 go_wp2_with fail
 refine hR.out.mono ?_
 rintro e w1 ⟨g, v', u', rfl, hq⟩
 have hend := Lib.hid (show RatNew w w1 g (neg && decide (beVal xs ≠ 0)) v' u' (beVal xs / Nat.gcd (beVal xs) (beVal ys)) (beVal ys / Nat.gcd (beVal xs) (beVal ys)) from
  ⟨⟨hq.at_.num.lower k0.out.size, hq.at_.den.lower k0.out.size, hq.at_.ap⟩, k0.out.trans hq.keep (fun _ _ h => h), Nat.le_trans k0.out.size hq.ge⟩)
 clear hq hR
 go_wp2_with fail
 go_ret2
 exact ⟨g, v', u', rfl, hend.out⟩
set_option maxRecDepth 100000 in
theorem prmDecimal (w : World) (base E S W F br gr n d wm k1 k2 M X : Nat) (tr v u : Value) (xs : List Int) (s : Bool) (h : EncAt w base E S W tr xs) (ha : DecArg w br gr n d wm k1 k2 M X s v u) (hg : Thr w) (hGL : GL ≤ base) (hl : xs.length ≤ 100)
  (hgr : gr < base) (hv : ∀ k, v.ownBlock = some k → k < base) (hu : ∀ k, u.ownBlock = some k → k < base)
  (hF : w.cell? ⟨F, 5, none⟩ = some (.int .u8 5)) (hFb : F < base) :
  Calls Tryz.prog 43 #[.pointer (some ⟨F, 0, none⟩), .pointer (some ⟨E, 0, none⟩), .iface 93 (.pointer (some ⟨gr, 0, none⟩))] w fun e w' =>
   e = .returned .nilIface ∧ EncAt w' base E S W tr (xs ++ [5] ++ decB s M X) ∧ Below base w w' := by
 have key : ∀ w1, EncAt w1 base E S W tr (xs ++ [5]) → Below base w w1 → Calls Tryz.prog 84 #[.pointer (some ⟨E, 0, none⟩), .iface 93 (.pointer (some ⟨gr, 0, none⟩))] w1 fun e w' =>
   e = .returned .nilIface ∧ EncAt w' base E S W tr (xs ++ [5] ++ decB s M X) ∧ Below base w1 w' := fun w1 h1 hb1 =>
  decFieldE w1 base E S W br gr n d wm k1 k2 M X tr v u (xs ++ [5]) s h1 ⟨ha.rat.kept (T := fun k => base ≤ k) ⟨hb1.os, hb1.tape, hb1.output, hb1.size, fun k hk hT => hb1.block k (by omega)⟩ (by omega) (fun k hk => by have := hv k hk; omega) (fun k hk => by have := hu k hk; omega), ha.wlt, ha.kind⟩ (hg.below hb1 hGL) (by have h1 := h.lo.1; have h2 := sizeOf_blk h.enc; have h3 := hb1.size; omega) (by simp; omega)
 have key' := Lib.hid key; clear key
 have ha' := Lib.hid ha
 clear ha hg hGL hgr hv hu
 go_enter Tryz.func43, Tryz.ntmps43
 go_wp2_with (first | (go_at_call 67; go_in) | (go_at_call 63; go_in))
 refine (byte_any w base E S W tr xs h 5 (by omega)).mono ?_
 rintro e w1 ⟨rfl, h1, hb⟩
 have hF1 : w1.cell? ⟨F, 5, none⟩ = some (.int .u8 5) := (hb.cell (p := ⟨F, 5, none⟩) hFb).trans hF
 have hk := Lib.hid (key'.out w1 h1 hb)
 have hb' := Lib.hid hb
 clear h1 hb key' hF
 go_wp2_with fail
 refine hk.out.mono ?_
 rintro e w2 ⟨rfl, h2, hb2⟩
 have hfin := Lib.hid (And.intro h2 (hb'.out.trans hb2))
 clear h2 hb2
 go_wp2_with fail
 go_ret
 exact ⟨rfl, hfin.out⟩
set_option maxRecDepth 100000 in
theorem sizeDecimal (w : World) (F : Nat) (x : Value) (hF : w.cell? ⟨F, 5, none⟩ = some (.int .u8 5)) :
  Calls Tryz.prog 21 #[.pointer (some ⟨F, 0, none⟩), .iface 93 x] w fun e w' => e = .returned (.int .i64 16) ∧ w = w' := by
 go_enter Tryz.func21, Tryz.ntmps21
 go_wp2
 go_ret
 exact ⟨by simp, rfl⟩
end Go.Proofs.YtgamldefngehlaaGreatDoor
namespace Go.Proofs.YtgamldefngehlaaGreatDoor
open Go.RowKit
theorem RatAt.same {W W' : World} {base g n d : Nat} {s s' : Bool} {v u : Value} (h : RatAt W base g s s' v u n d) (hz : W.heap.size ≤ W'.heap.size) (hk : ∀ k, (k = g ∨ v.ownBlock = some k ∨ u.ownBlock = some k) → W'.heap[k]? = W.heap[k]?) : RatAt W' base g s s' v u n d := by
 have kk : Keeps (fun k => ¬ (k = g ∨ v.ownBlock = some k ∨ u.ownBlock = some k)) W { W' with os := W.os, tape := W.tape, output := W.output } := ⟨rfl, rfl, rfl, hz, fun k _ hT => hk k (Classical.not_not.1 hT)⟩
 have h1 := h.kept kk (fun e => e (.inl rfl)) (fun k hk e => e (.inr (.inl hk))) (fun k hk e => e (.inr (.inr hk)))
 exact ⟨⟨h1.num.known, h1.num.neg, h1.num.abs, h1.num.nat⟩, ⟨h1.den.known, h1.den.neg, h1.den.abs, h1.den.nat⟩, h1.ap⟩
theorem Thr.same {W W' : World} (h : Thr W) (hk : ∀ k, k < GL → W'.heap[k]? = W.heap[k]?) : Thr W' :=
 ⟨(World.cell?_of_block (hk _ (by decide))).trans h.div, (World.cell?_of_block (hk _ (by decide))).trans h.mul, (World.cell?_of_block (hk _ (by decide))).trans h.sqr, (World.cell?_of_block (hk _ (by decide))).trans h.sqrK⟩
def DecR (w : World) (n d wm k1 k2 M X : Nat) (s : Bool) (x : Value) (B : Nat) (W : World) : Prop := ∃ br gr v u, x = .iface 93 (.pointer (some ⟨gr, 0, none⟩)) ∧ DecArg W br gr n d wm k1 k2 M X s v u ∧ Thr W ∧ GL ≤ w.heap.size ∧ w.heap.size ≤ B ∧
 (∀ k, (k = gr ∨ v.ownBlock = some k ∨ u.ownBlock = some k) → w.heap.size + 4 ≤ k ∧ k < B)
theorem DecR.stays {w : World} {n d wm k1 k2 M X B : Nat} {s : Bool} {x : Value} {W W' : World} (h : DecR w n d wm k1 k2 M X s x B W) (hs : Stays w 4 B W W') : DecR w n d wm k1 k2 M X s x B W' := by
 obtain ⟨br, gr, v, u, rfl, ha, hg, h1, h2, h3⟩ := h
 exact ⟨br, gr, v, u, rfl, ⟨ha.rat.same hs.size (fun k hk => hs.blk k (h3 k hk).2 (.inr (h3 k hk).1)), ha.wlt, ha.kind⟩, hg.same (fun k hk => hs.blk k (by omega) (.inl (by omega))), h1, h2, h3⟩
theorem fbDecimal (w : World) (n d wm k1 k2 M X : Nat) (s : Bool) (cs : Array Value) (hcs : cs.size = 22)
  (hany : ∀ W : World, Below w.heap.size w W → w.heap.size + 4 ≤ W.heap.size → Calls Tryz.prog 18 #[.agg cs] W fun e w' => ∃ x, e = .returned (.tuple #[x, .bool true]) ∧ DecR w n d wm k1 k2 M X s x w'.heap.size w' ∧ Below W.heap.size W w') :
  Calls Tryz.prog 7 #[.int .i64 5, .agg cs, .int .i64 0, .int .i64 0] w fun e w' =>
   ∃ v, e = .returned (.tuple #[v, .int .i64 16, .int .i64 0]) ∧ w'.ownsRow w.heap.size 5 1 v ([5] ++ decB s M X).length (u8s ([5] ++ decB s M X)) ∧ Below w.heap.size w w' := by
 refine fbCoreT w 5 0 0 16 cs hcs ([5] ++ decB s M X) (fun x B W => DecR w n d wm k1 k2 M X s x B W) (by decide) (by decide) (by decide) (by decide) (by decide) (by decide) hany (fun _ _ _ _ h hs => h.stays hs) ?_ ?_
 ·intro W x B F hF hR
  obtain ⟨br, gr, v, u, rfl, -⟩ := hR
  exact (sizeDecimal W F _ hF.cells.2.2).mono fun e w' ⟨h1, h2⟩ => ⟨h1, h2 ▸ Below.refl _ W⟩
 ·intro W x base B E S Wr F tr _ hF hFb hB hR hE
  obtain ⟨br, gr, v, u, rfl, ha, hg, h1, h2, h3⟩ := hR
  exact zzFieldBytes_any W _ _ _ _ ((prmDecimal W base E S Wr F br gr n d wm k1 k2 M X tr v u [] s hE ha hg (by omega) (by simp) (by have := h3 gr (.inl rfl); omega) (fun k hk => by have := h3 k (.inr (.inl hk)); omega) (fun k hk => by have := h3 k (.inr (.inr hk)); omega) hF.cells.2.2 hFb).mono fun e w' h => by simpa using h)
theorem digs_len_le {n m : Nat} (h : n ≤ m) : (digs WB n).length ≤ (digs WB m).length := (digs_length_le WB_one).2 (Nat.lt_of_le_of_lt h ((digs_length_le WB_one).1 (Nat.le_refl _)))
theorem BytesIn.below {w w' : World} {B : Nat} {v : Value} {xs : List Nat} (h : BytesIn w v xs) (hb : Below B w w') (hB : B = w.heap.size) : BytesIn w' v xs :=
 h.kept ⟨hb.os, hb.tape, hb.output, hb.size, fun k hk _ => hb.block k (by omega)⟩
def ratVal (s : Bool) (v u : Value) : Array Value := valCells 7 false 0 0 (.slice none 0 0) ⟨#[]⟩ s v u
structure DecIn (P Q wm k1 k2 M X : Nat) (s : Bool) : Prop where
 eq : P * 10 ^ k1 = Q * wm * 10 ^ k2
 w14 : wm < 256 ^ 14
 h1 : k1 ≤ 60
 h2 : k2 ≤ 60
 q0 : Q ≠ 0
 ln : (digs WB P).length ≤ 5
 ld : (digs WB Q).length ≤ 4
 few : Q = 1 ∨ (digs WB P).length ≤ 3
 kind : (P ≠ 0 ∧ DecOf wm k1 k2 M X) ∨ (P = 0 ∧ M = 0 ∧ X = 6176)
theorem DecIn.cv {P Q wm k1 k2 M X : Nat} {s : Bool} (h : DecIn P Q wm k1 k2 M X s) (h0 : P ≠ 0) : CvIn (P / Nat.gcd P Q) (Q / Nat.gcd P Q) wm k1 k2 := by
 have hQ := Nat.pos_of_ne_zero h.q0
 have hG0 : 0 < Nat.gcd P Q := Nat.gcd_pos_of_pos_right _ hQ
 have hp := Nat.div_pos (Nat.gcd_le_left Q (Nat.pos_of_ne_zero h0)) hG0
 have hq := Nat.div_pos (Nat.gcd_le_right P hQ) hG0
 have e1 : P / Nat.gcd P Q * Nat.gcd P Q = P := Nat.div_mul_cancel (Nat.gcd_dvd_left _ _)
 have e2 : Q / Nat.gcd P Q * Nat.gcd P Q = Q := Nat.div_mul_cancel (Nat.gcd_dvd_right _ _)
 refine ⟨Nat.eq_of_mul_eq_mul_right hG0 ?_, Nat.lt_trans h.w14 (by decide +kernel), h.h1, h.h2, by omega, by omega, Nat.le_trans (digs_len_le (Nat.div_le_self _ _)) h.ln, Nat.le_trans (digs_len_le (Nat.div_le_self _ _)) h.ld, ?_⟩
 ·rw [Nat.mul_right_comm, e1, Nat.mul_right_comm, Nat.mul_right_comm (Q / Nat.gcd P Q), e2]; exact h.eq
 ·rcases h.few with rfl | h3
  ·exact .inl (by rw [Nat.gcd_one_right])
  ·exact .inr (Nat.le_trans (digs_len_le (Nat.div_le_self _ _)) h3)
theorem fbValD (w : World) (neg : Bool) (v u : Value) (xs ys : List Nat) (wm k1 k2 M X : Nat) (h : BytesIn w v xs) (hd : BytesIn w u ys) (hn : xs.length ≤ 400) (hm : ys.length ≤ 400) (hI : DecIn (beVal xs) (beVal ys) wm k1 k2 M X (neg && decide (beVal xs ≠ 0))) (hg : Thr w) (hGL : GL ≤ w.heap.size) :
  Calls Tryz.prog 7 #[.int .i64 5, .agg (ratVal neg v u), .int .i64 0, .int .i64 0] w fun e w' =>
   ∃ r, e = .returned (.tuple #[r, .int .i64 16, .int .i64 0]) ∧ w'.ownsRow w.heap.size 5 1 r ([5] ++ decB (neg && decide (beVal xs ≠ 0)) M X).length (u8s ([5] ++ decB (neg && decide (beVal xs ≠ 0)) M X)) ∧ Below w.heap.size w w' := by
 refine fbDecimal w (beVal xs / Nat.gcd (beVal xs) (beVal ys)) (beVal ys / Nat.gcd (beVal xs) (beVal ys)) wm k1 k2 M X (neg && decide (beVal xs ≠ 0)) (ratVal neg v u) rfl ?_
 have hfew : (digs WB (beVal xs)).length ≤ 3 ∨ (digs WB (beVal ys)).length ≤ 3 := by
  rcases hI.few with h1 | h1
  ·right
   rw [h1, digs_small WB_one (by omega) WB_one]
   simp
  ·exact .inl h1
 intro W hW hz
 refine (anyOf7 W false 0 0 (.slice none 0 0) ⟨#[]⟩ neg v u xs ys (h.below hW rfl) (hd.below hW rfl) hn hm hI.q0 hfew (by have := hI.ln; omega) (by have := hI.ld; omega) (hg.below hW hGL) (by omega)).mono ?_
 rintro e w' ⟨g, v', u', rfl, hq⟩
 have hs := hq.keep.size
 have hbl : Below W.heap.size W w' := hq.keep.below (Nat.le_refl _) (fun _ _ h => h.elim)
 refine ⟨_, rfl, ⟨W.heap.size, g, v', u', rfl, ⟨hq.at_, hI.w14, ?_⟩, (hg.below hW hGL).below hbl (by omega), hGL, by omega, fun k hk => ?_⟩, hbl⟩
 ·rcases hI.kind with ⟨h1, h2⟩ | ⟨h1, h2, h3⟩
  ·exact .inl ⟨hI.cv h1, h2⟩
  ·exact .inr ⟨by rw [h1, Nat.zero_div], by simp [h1], h2, h3⟩
 ·rcases hk with rfl | hk | hk
  ·exact ⟨by have := hq.ge; omega, hq.at_.num.known.lt⟩
  ·have := NatRow.lt hq.at_.num.nat k hk; omega
  ·have := NatRow.lt hq.at_.den.nat k hk; omega
end Go.Proofs.YtgamldefngehlaaGreatDoor
namespace Go.Proofs.YtgamldefngehlaaGreatDoor
theorem beVal_rev : ∀ xs : List Nat, beVal xs.reverse = val 256 xs
 | [] => rfl
 | x :: xs => by rw [List.reverse_cons, beVal_append, beVal_rev xs]; simp [beVal, val]; omega
theorem beB_digs (a : Nat) : beB a = (digs 256 a).reverse := by
 have h1 : val 256 (beB a).reverse = a := by rw [← beVal_rev, List.reverse_reverse, beB_val]
 have h2 : digs 256 (val 256 (beB a).reverse) = (beB a).reverse := by
  refine digs_val (by omega) (fun x hx => beB_lt a x (by simpa using hx)) (fun hne => ?_)
  rw [List.getLast_reverse]
  intro h0
  have hne' : beB a ≠ [] := by simpa using hne
  have := List.head_dropWhile_not (fun x : Nat => x == 0) hne'
  have h3 : ((beB a).head hne' == 0) = false := this
  rw [show (beB a).head hne' = 0 from h0] at h3
  simp at h3
 rw [h1] at h2
 rw [h2, List.reverse_reverse]
theorem beB_length (a : Nat) : (beB a).length = (digs 256 a).length := by rw [beB_digs, List.length_reverse]
theorem beB_of {xs : List Nat} (hb : ∀ x ∈ xs, x < 256) (h0 : xs = [] ∨ xs.getD 0 0 ≠ 0) : xs = beB (beVal xs) := by
 have h1 : val 256 xs.reverse = beVal xs := by rw [← beVal_rev, List.reverse_reverse]
 rw [beB_digs, ← h1, digs_val (by omega) (fun x hx => hb x (by simpa using hx)) (fun hne => ?_), List.reverse_reverse]
 rw [List.getLast_reverse]
 cases xs with
 | nil => simp at hne
 | cons x xs => simpa using h0
end Go.Proofs.YtgamldefngehlaaGreatDoor
namespace Go.Proofs.YtgamldefngehlaaGreatDoor
open Go.RowKit
@[go_sem] theorem as_r_b (v : Value) (w : World) : (Instr.typeAssert (.iface 93 v) 20 4 true).run Tryz.prog w = .ok (.tuple #[.bool false, .bool false]) w := by kernel_rfl
@[go_sem] theorem as_r_i (v : Value) (w : World) : (Instr.typeAssert (.iface 93 v) 20 2 true).run Tryz.prog w = .ok (.tuple #[.int .i64 0, .bool false]) w := by kernel_rfl
@[go_sem] theorem as_r_f (v : Value) (w : World) : (Instr.typeAssert (.iface 93 v) 20 42 true).run Tryz.prog w = .ok (.tuple #[.float .f64 0, .bool false]) w := by kernel_rfl
@[go_sem] theorem as_r_s (v : Value) (w : World) : (Instr.typeAssert (.iface 93 v) 20 22 true).run Tryz.prog w = .ok (.tuple #[.slice none 0 0, .bool false]) w := by kernel_rfl
@[go_sem] theorem as_r_t (v : Value) (w : World) : (Instr.typeAssert (.iface 93 v) 20 9 true).run Tryz.prog w = .ok (.tuple #[.string ⟨#[]⟩, .bool false]) w := by kernel_rfl
@[go_sem] theorem as_r_m (v : Value) (w : World) : (Instr.typeAssert (.iface 93 v) 20 90 true).run Tryz.prog w = .ok (.tuple #[.agg #[.int .i64 0, .int .i64 0], .bool false]) w := by kernel_rfl
theorem rat1 (s : Bool) (A : Option Addr) (n c : Nat) (B : Option Addr) (m d : Nat) : (ratVal s (.slice A n c) (.slice B m d)).all (·.oneCell') = true := by
 simp [ratVal, valCells, Value.oneCell']
set_option maxRecDepth 100000 in
theorem valOf7 (w : World) (base g n d : Nat) (s : Bool) (v u : Value) (h : RatAt w base g s false v u n d) (hs : s = true → n ≠ 0) (hd : d ≠ 0) (hle : (digs WB n).length ≤ 1000) (hle2 : (digs WB d).length ≤ 1000) :
  Calls Tryz.prog 30 #[.iface 93 (.pointer (some ⟨g, 0, none⟩))] w fun e w' => ∃ b p c b' p' c' : Nat, e = .returned (.agg (ratVal s (.slice (some ⟨b, p, none⟩) (beB n).length c) (.slice (some ⟨b', p', none⟩) (beB d).length c'))) ∧ (beB n).length ≤ c ∧ VecB w' b p (beB n) ∧ w.heap.size ≤ b ∧ (beB d).length ≤ c' ∧ VecB w' b' p' (beB d) ∧ w.heap.size ≤ b' ∧ Below w.heap.size w w' := by
 have k0 := (Keeps.refl (fun _ => False) w).alloc (.cells noVal 49)
 have hB := Lib.hid (ratBack_any (w.alloc (.cells noVal 49)) base g n d s v u (h.kept k0 (fun h => h) (fun _ _ h => h) (fun _ _ h => h)) hs hd hle hle2)
 have q : (w.alloc (.cells noVal 49)).heap[w.heap.size]? = some (.cells noVal 49 (0, 0)) := blk_new _ _
 replace k0 := Lib.hid k0
 clear h hs hd hle hle2
 go_enter Tryz.func30, Tryz.ntmps30
 go_wp2_with fail
 refine hB.out.mono ?_
 rintro e w1 ⟨b, p, c, b', p', c', rfl, hc, hv, hlb, hc', hv', hlb', hk⟩
 have q1 := (hk.blk _ (sizeOf_blk q) (fun h => h)).trans q
 have l0 := sizeOf_blk q
 have hend := Lib.hid (And.intro hc (And.intro hv (And.intro hlb (And.intro hc' (And.intro hv' (And.intro hlb' hk))))))
 clear hc hv hlb hc' hv' hlb' hk q hB
 go_wp2_with (refine store_val rfl (.tmp 2) _ rfl _ rfl (ratVal s (.slice (some ⟨b, p, none⟩) (beB n).length c) (.slice (some ⟨b', p', none⟩) (beB d).length c')) rfl noVal q1 rfl rfl (rat1 _ _ _ _ _ _ _) ?_)
 obtain ⟨hc, hv, hlb, hc', hv', hlb', hk⟩ := hend.out
 have hb8 : Below w.heap.size w1 (w1.setRow w.heap.size (ratVal s (.slice (some ⟨b, p, none⟩) (beB n).length c) (.slice (some ⟨b', p', none⟩) (beB d).length c'))) := below_setRow (Below.refl _ w1) (Nat.le_refl _) _
 have hk8 : Keeps (fun k => k = w.heap.size) w1 (w1.setRow w.heap.size (ratVal s (.slice (some ⟨b, p, none⟩) (beB n).length c) (.slice (some ⟨b', p', none⟩) (beB d).length c'))) := ⟨hb8.os, hb8.tape, hb8.output, hb8.size, fun k hk hT => setRow_other _ _ _ _ (by omega)⟩
 have k01 := k0.out.trans hk (fun _ _ h => h)
 have z0 := k0.out.size
 exact ⟨rfl, _, results_val _ _ _ rfl (setRow_heap _ _ _ _ _ _ q1) _ rfl, ⟨b, p, c, b', p', c', rfl, hc, fun j hj => hk8.cellS (hv j hj) (fun e => by have e' : b = w.heap.size := e; omega), by omega, hc', fun j hj => hk8.cellS (hv' j hj) (fun e => by have e' : b' = w.heap.size := e; omega), by omega, (k01.below (Nat.le_refl _) (fun _ _ h => h.elim)).trans hb8⟩⟩
def RatVal (w : World) (s : Bool) (n d : Nat) (v : Array Value) (B : Nat) (W : World) : Prop :=
 ∃ b p c b' p' c' : Nat, v = ratVal s (.slice (some ⟨b, p, none⟩) (beB n).length c) (.slice (some ⟨b', p', none⟩) (beB d).length c') ∧ (beB n).length ≤ c ∧ VecB W b p (beB n) ∧ w.heap.size + 3 ≤ b ∧ (0 < (beB n).length → b < B) ∧ (beB d).length ≤ c' ∧ VecB W b' p' (beB d) ∧ w.heap.size + 3 ≤ b' ∧ (0 < (beB d).length → b' < B)
theorem RatVal.stays {w W W' : World} {s : Bool} {n d B : Nat} {v : Array Value} (h : RatVal w s n d v B W) (hs : Stays w 3 B W W') : RatVal w s n d v B W' := by
 obtain ⟨b, p, c, b', p', c', rfl, h1, h2, h3, h4, h5, h6, h7, h8⟩ := h
 exact ⟨b, p, c, b', p', c', rfl, h1, fun j hj => (World.cell?_of_block (hs.blk b (h4 (by omega)) (.inr h3))).trans (h2 j hj), h3, h4, h5, fun j hj => (World.cell?_of_block (hs.blk b' (h8 (by omega)) (.inr h7))).trans (h6 j hj), h7, h8⟩
theorem vecB_lt {w : World} {b p : Nat} {xs : List Nat} (h : VecB w b p xs) (h0 : 0 < xs.length) : b < w.heap.size := by
 have := h 0 h0
 unfold World.cell? at this
 cases hh : w.heap[b]? with
 | none => simp [hh] at this
 | some o => exact (Array.getElem?_eq_some_iff.1 hh).1
def decNum (M X : Nat) : Nat := M * 10 ^ ((X : Int) - 6176).toNat
def decDen (X : Nat) : Nat := 10 ^ (-((X : Int) - 6176)).toNat
theorem decDen_pos (X : Nat) : decDen X ≠ 0 := Nat.pos_iff_ne_zero.1 (ten_pos _)
theorem decNum_ne {M X : Nat} (h : M ≠ 0) : decNum M X ≠ 0 := Nat.mul_ne_zero h (Nat.pos_iff_ne_zero.1 (ten_pos _))
theorem decNum_len {M X : Nat} (hM : M < 256 ^ 14) (hX : X < 6271) : (digs WB (decNum M X)).length ≤ 8 := by
 refine (digs_length_le WB_one).2 ?_
 have h1 : 10 ^ ((X : Int) - 6176).toNat ≤ 10 ^ 95 := Nat.pow_le_pow_right (by omega) (by omega)
 have h2 : (256 ^ 14 * 10 ^ 95 : Nat) < WB ^ 8 := by rw [WB_eq]; decide +kernel
 exact Nat.lt_of_le_of_lt (Nat.mul_le_mul (Nat.le_of_lt hM) h1) h2
theorem decDen_len {X : Nat} (hX : 6116 ≤ X) : (digs WB (decDen X)).length ≤ 4 := by
 refine (digs_length_le WB_one).2 ?_
 have h1 : 10 ^ (-((X : Int) - 6176)).toNat ≤ 10 ^ 60 := Nat.pow_le_pow_right (by omega) (by omega)
 have h2 : (10 ^ 60 : Nat) < WB ^ 4 := by rw [WB_eq]; decide +kernel
 exact Nat.lt_of_le_of_lt h1 h2
theorem valDec (w W : World) (M X : Nat) (s : Bool) (hX : 6116 ≤ X ∧ X < 6271) (hM : M < 256 ^ 14) (b g : Nat) (v u : Value) (hr : RatAt W b g (decide (M ≠ 0) && s) false v u (decNum M X) (decDen X)) (hz : w.heap.size + 3 ≤ W.heap.size) :
  Calls Tryz.prog 30 #[.iface 93 (.pointer (some ⟨g, 0, none⟩))] W fun e w' => ∃ v, e = .returned (.agg v) ∧ v.size = 22 ∧ v.all (·.oneCell') = true ∧ RatVal w (decide (M ≠ 0) && s) (decNum M X) (decDen X) v w'.heap.size w' ∧ Below W.heap.size W w' := by
 have l1 := decNum_len (X := X) hM hX.2
 have l2 := decDen_len hX.1
 refine (valOf7 W b g _ _ _ v u hr (fun h => decNum_ne (by have := h; simp at this; exact this.1)) (decDen_pos X) (by omega) (by omega)).mono ?_
 rintro e w' ⟨b1, p1, c1, b2, p2, c2, rfl, h1, h2, h3, h4, h5, h6, h7⟩
 exact ⟨_, rfl, rfl, rat1 _ _ _ _ _ _ _, ⟨b1, p1, c1, b2, p2, c2, rfl, h1, h2, by omega, fun h => vecB_lt h2 h, h4, h5, by omega, fun h => vecB_lt h5 h⟩, h7⟩
set_option maxRecDepth 100000 in
theorem prmDecD (W : World) (base D S rb ro n c : Nat) (tr : Value) (dfv emp : Bool) (k : Nat) (bs : List Int) (M X : Nat) (s : Bool) (hx : (bs.drop k).take 16 = decB s M X) (hX : 6116 ≤ X ∧ X < 6271) (hM : M < 256 ^ 14) (hg : Thr W) (hGL : GL ≤ base) (hbw : base ≤ W.heap.size) (hkn : k + 16 ≤ n)
  (h : DecAt W base D S rb ro n c tr dfv emp k) (hin : Input W rb ro n c bs) :
  Calls Tryz.prog 96 #[.int .u8 5, .pointer (some ⟨D, 0, none⟩), .int .i64 0] W fun e w' =>
   ∃ x y, e = .returned (.tuple #[x, y]) ∧ (∃ g v u b, x = .iface 93 (.pointer (some ⟨g, 0, none⟩)) ∧ RatAt w' b g (decide (M ≠ 0) && s) false v u (decNum M X) (decDen X)) ∧ y = .nilIface ∧ DecAt w' base D S rb ro n c tr dfv emp (k + 16) ∧ Below base W w' := by
 have hF := Lib.hid (decD_any W base D S rb ro n c tr dfv emp k bs s M X hx hX hM h hin hkn hg hGL hbw)
 clear hx hM hg hGL hbw hkn h hin
 go_enter Tryz.func96, Tryz.ntmps96
 go_wp2_with fail
 refine hF.out.mono ?_
 rintro e w1 ⟨g, v, u, rfl, hr, h1, hd, hb⟩
 have hend := Lib.hid (And.intro hr (And.intro hd hb))
 clear hr h1 hd hb hF
 go_wp2_with fail
 go_ret2
 obtain ⟨hr, hd, hb⟩ := hend.out
 exact ⟨_, _, rfl, ⟨g, v, u, _, rfl, hr⟩, rfl, hd, hb⟩
end Go.Proofs.YtgamldefngehlaaGreatDoor
namespace Go.Proofs.YtgamldefngehlaaGreatDoor
open Go.RowKit
theorem foDecimal (w : World) (M X : Nat) (s : Bool) (hX : 6116 ≤ X ∧ X < 6271) (hM : M < 256 ^ 14) (hg : Thr w) (hGL : GL ≤ w.heap.size) (rb ro c : Nat) (hin : Input w rb ro 17 c ([5] ++ decB s M X)) (hrb : rb < w.heap.size) :
  Calls Tryz.prog 9 #[.int .i64 5, .slice (some ⟨rb, ro, none⟩) (17 : Nat) c, .int .i64 0, .bool false, .bool false] w fun e w' =>
   ∃ v B, e = .returned (.tuple #[.agg v, .int .i64 (17 : Nat), .int .i64 0]) ∧ RatVal w (decide (M ≠ 0) && s) (decNum M X) (decDen X) v B w' ∧ Below w.heap.size w w' := by
 have hlen := decB_len s M X
 refine (foCoreD w 5 0 17 rb ro 17 c false false ([5] ++ decB s M X) hin hrb (by omega) (by decide) (by decide) (by decide) (by decide)
  (fun x B W => ∃ g v u b, x = .iface 93 (.pointer (some ⟨g, 0, none⟩)) ∧ RatAt W b g (decide (M ≠ 0) && s) false v u (decNum M X) (decDen X)) (fun v B W => RatVal w (decide (M ≠ 0) && s) (decNum M X) (decDen X) v B W) ?_ ?_ (fun _ _ _ _ h hs => h.stays hs)).mono ?_
 ·intro W base D S F tr _ hF hFD hFS hrb' hbW hbs hD hin'
  have hbw : base ≤ W.heap.size := by have h1 := hD.lo.1; have h2 := sizeOf_blk hD.dec; omega
  have hgW := hg.below hbW hGL
  refine (zzFieldOf_any W _ _ _ (decPrm W base D S rb ro 17 c tr false false _ 5 rfl (by decide) (by decide) F 5 0 0 hD hin' hF hFD hFS hrb' (fun x y w' => (∃ g v u b, x = .iface 93 (.pointer (some ⟨g, 0, none⟩)) ∧ RatAt w' b g (decide (M ≠ 0) && s) false v u (decNum M X) (decDen X)) ∧ y = .nilIface ∧ DecAt w' base D S rb ro 17 c tr false false 17 ∧ Below base W w') ?_)).mono ?_
  ·intro W1 hD1 hin1 hb1
   exact (prmDecD W1 base D S rb ro 17 c tr false false 1 _ M X s (by simp [List.take_of_length_le, hlen]) hX hM (hgW.below hb1 (by omega)) (by omega) (by have := hb1.size; omega) (by omega) hD1 hin1).mono fun e w' ⟨x, y, h1, h2, h3, h4, h5⟩ => ⟨x, y, h1, h2, h3, h4, hb1.trans h5⟩
  ·rintro e w' ⟨x, y, h1, h2, h3, h4, h5⟩
   exact ⟨x, y, h1, h3, h2, h4, h5⟩
 ·rintro W B x ⟨g, v, u, b, rfl, hr⟩ hB hz
  exact valDec w W M X s hX hM b g v u hr hz
 ·rintro e w' ⟨v, B, rfl, _, hv, _, hb⟩
  exact ⟨v, B, rfl, hv, hb⟩
end Go.Proofs.YtgamldefngehlaaGreatDoor
