/- Parts of the walk. -/
import Derived.Test.YthocmhkafgpgbaaGreatDoorM12
import Derived.Test.YthocmhkafgpgbaaGreatDoorM15
set_option linter.unusedVariables false
set_option linter.unusedSimpArgs false
namespace Go.Proofs.YthocmhkafgpgbaaGreatDoor
open Go.RowKit
theorem madeB_zeros (c : Nat) : madeCells #[Value.int .u8 0] c = (u8n (List.replicate c 0)).toArray := by
 refine Array.ext (by simp [madeCells]) fun i h1 h2 => ?_
 simp [madeCells, Nat.mod_one]
theorem info8 : (Tryz.prog.info? 5).map (fun i => (i.zero, i.size, i.bytes)) = some (some (.int .u8 0), 1, 1) := by kernel_rfl
theorem makeB (l : Nat) (hc : l ≤ 1000000) (w : World) :
  (Instr.makeSlice 22 (.int .i64 (l : Int)) (.int .i64 (l : Int))).run Tryz.prog w = .ok (.slice (some ⟨w.heap.size, 0, none⟩) l l) (w.alloc (.cells (madeCells #[Value.int .u8 0] l) 5 (0, 0))) := by
 obtain ⟨i, hi, hzz⟩ := Option.map_eq_some_iff.1 info8
 simp only [Prod.mk.injEq] at hzz
 obtain ⟨hz, hs, hb⟩ := hzz
 have hr := run_make (P := Tryz.prog) w 22 5 i (.int .u8 0) Tryz.underlying22 hi hz .i64 .i64 l l (by omega) (by omega) (by rw [hb]; omega) (by omega)
 simp only [Int.toNat_natCast, hs, Nat.mul_one] at hr
 exact hr
theorem blkB_zeros (w : World) (c : Nat) : BlkB (w.alloc (.cells (madeCells #[Value.int .u8 0] c) 5 (0, 0))) w.heap.size (List.replicate c 0) := by
 unfold BlkB
 rw [blk_new, madeB_zeros]
set_option maxRecDepth 100000 in
set_option maxHeartbeats 1000000 in
theorem intBytes_any (w : World) (base g o a : Nat) (s : Bool) (v : Value) (h : IntAt w base g o s v a) (hle : (digs WB a).length ≤ 1000) :
  Calls Tryz.prog 131 #[.pointer (some ⟨g, o, none⟩)] w fun e w' => ∃ b p c : Nat, e = .returned (.slice (some ⟨b, p, none⟩) (beB a).length c) ∧ (beB a).length ≤ c ∧ VecB w' b p (beB a) ∧ w.heap.size ≤ b ∧ Keeps (fun _ => False) w w' := by
 obtain ⟨L, hL⟩ : ∃ L, 8 * (digs WB a).length = L := ⟨_, rfl⟩
 have hmk := makeB L (by omega) w
 have hlL : (beW (digs WB a)).length = L := by rw [beW_length, hL]
 have hB := natBytes_any (w.alloc (.cells (madeCells #[Value.int .u8 0] L) 5 (0, 0))) base w.heap.size v (List.replicate L 0) a (NatRow.kept h.nat ((Keeps.refl (fun _ => False) w).alloc _) (fun _ _ h => h)) (blkB_zeros w L) (by rw [List.length_replicate, hL]) hle
 rw [List.length_replicate] at hB
 have hB := Lib.hid hB
 obtain ⟨p0, c0, rfl⟩ := NatRow.form h.nat
 have c1 := h.abs
 have c2 : (w.alloc (.cells (madeCells #[Value.int .u8 0] L) 5 (0, 0))).cell? ⟨g, o + 1, none⟩ = some (.slice p0 (digs WB a).length c0) := ((Keeps.refl (fun _ => False) w).alloc _).cellS c1 (fun h => h)
 have e1 : ((digs WB a).length : Int) * 8 = (L : Int) := by omega
 clear h
 go_enter Tryz.func131, Tryz.ntmps131
 go_wp2_with fail
 refine hB.out.mono ?_
 rintro e w1 ⟨i, rfl, hi, hb, h0, h1, hk⟩
 have hk1 : Keeps (fun _ => False) w w1 := ((Keeps.refl (fun _ => False) w).alloc _).trans hk (fun k hk e => by omega)
 have hd : beB a = (beW (digs WB a)).drop i := dropWhile_drop (by omega) h0 (fun h => h1 (by omega))
 have hbl : (beB a).length = L - i := by rw [hd, List.length_drop, hlL]
 have hcases : i < L ∨ (i = 0 ∧ L = 0) := by
  by_cases e : i < L
  ·exact .inl e
  ·refine .inr ?_
   have h3 := beB_val a
   rw [hd, List.drop_of_length_le (by omega)] at h3
   have h4 : a = 0 := h3.symm
   subst h4
   rw [digs_zero] at hL
   simp at hL
   omega
 have hv : VecB w1 w.heap.size i (beB a) := fun j hj => by
  have := hb.vec (i + j) (by omega)
  rw [Nat.zero_add] at this
  rw [this]
  congr 3
  have e2 : (beB a)[j]? = (beW (digs WB a))[i + j]? := by rw [hd]; simp
  rw [List.getElem?_eq_getElem hj, List.getElem?_eq_getElem (by omega)] at e2
  exact (Option.some.inj e2).symm
 have hsl : (Instr.slice 22 (.slice (some ⟨w.heap.size, 0, none⟩) L L) (some (.int .i64 (i : Int))) none none).run Tryz.prog w1 = .ok (.slice (some ⟨w.heap.size, i, none⟩) (beB a).length (beB a).length) w1 := by
  rcases hcases with hc | ⟨rfl, rfl⟩
  ·have := tail8 w.heap.size 0 L L i (by omega) hc w1
   rw [Nat.zero_add, ← hbl] at this
   exact this
  ·rw [show (((0 : Nat) : Int)) = 0 from rfl, run_slice_l w1 22 _ _ _ (by rw [elem8]; exact Tryz.underlying22) .i64 0 (by omega) (by omega), elem8, size8]
   simp [Result.andThen, sliced, hbl]
 have hfin := Lib.hid (And.intro hv (And.intro hk1 hbl))
 have b1 : (i : Int) ≤ L := by omega
 clear hB hd h0 h1 hcases hv hb
 go_wp2_with fail
 go_ret
 obtain ⟨hv, hk1, hbl⟩ := hfin.out
 exact ⟨w.heap.size, i, L - i, by rw [hbl]; rfl, by omega, hv, Nat.le_refl _, hk1⟩
end Go.Proofs.YthocmhkafgpgbaaGreatDoor
namespace Go.Proofs.YthocmhkafgpgbaaGreatDoor
open Go.RowKit
set_option maxRecDepth 100000 in
theorem setBytes_none (w : World) (p : Option Addr) (c : Nat) : Calls Tryz.prog 199 #[.slice none 0 0, .slice p 0 c] w fun e w' => e = .returned (.slice none 0 0) ∧ w' = w := by
 have hM := Lib.hid (make_zero w 0 (.slice none 0 0) [] (.nil _ _))
 have hN := Lib.hid (norm_nil w)
 go_enter Tryz.func199, Tryz.ntmps199
 go_wp2_with fail
 have hM := hM.out
 rw [show ((0 : Int) = (0 + 8 - 1) / 8) by decide] at hM
 refine hM.mono ?_
 rintro e w1 ⟨v', rfl, hw1, hr, ho⟩
 obtain rfl := hw1.symm
 rcases hr with ⟨rfl, -⟩ | ⟨gg, CC, rfl, _⟩
 ·go_wp2_with fail
  go_loopw [5, 6] (fun i kk wr => i = .int .i64 0 ∧ wr = w) (fun _ _ _ => 0)
  case atStart => exact ⟨rfl, rfl⟩
  case round =>
   obtain ⟨rfl, rfl⟩ := hrel
   go_wp2_with fail
   refine hN.out.mono ?_
   rintro e w1 ⟨rfl, hw1⟩
   obtain rfl := hw1.symm
   go_wp2_with fail
   go_ret
   exact ⟨rfl, rfl⟩
 ·simp [Value.ownBlock] at ho
def BytesIn (w : World) (v : Value) (xs : List Nat) : Prop := ∃ p c, v = .slice p xs.length c ∧ (∀ x ∈ xs, x < 256) ∧ (xs = [] ∨ ∃ b, p = some ⟨b, 0, none⟩ ∧ xs.length ≤ c ∧ VecB w b 0 xs ∧ b < w.heap.size)
theorem BytesIn.kept {w w' : World} {v : Value} {xs : List Nat} (h : BytesIn w v xs) (hk : Keeps (fun _ => False) w w') : BytesIn w' v xs := by
 obtain ⟨p, c, rfl, hb, h | ⟨b, rfl, hc, hv, hl⟩⟩ := h
 ·exact ⟨p, c, rfl, hb, .inl h⟩
 ·exact ⟨_, c, rfl, hb, .inr ⟨b, rfl, hc, fun j hj => hk.cellS (hv j hj) (fun h => h), Nat.lt_of_lt_of_le hl hk.size⟩⟩
set_option maxRecDepth 100000 in
theorem newSetBytes (w : World) (g : Nat) (v : Value) (xs : List Nat) (hz : IntAt w w.heap.size g 0 false (.slice none 0 0) 0) (h : BytesIn w v xs) (hn : xs.length ≤ 10000) :
  Calls Tryz.prog 134 #[.pointer (some ⟨g, 0, none⟩), v] w fun e w' => ∃ v', e = .returned (.pointer (some ⟨g, 0, none⟩)) ∧ IntOut w w' w.heap.size g 0 (.slice none 0 0) false v' (beVal xs) := by
 obtain ⟨p, c, rfl, hb, rfl | ⟨b, rfl, hc, hv, hl⟩⟩ := h
 ·have hS := Lib.hid (setBytes_none w p c)
  have c1 := hz.abs
  have ho : NatOut w w w.heap.size (.slice none 0 0) (.slice none 0 0) (digs WB 0) := ⟨hz.nat, Keeps.refl _ _, fun _ h => .inl h⟩
  obtain ⟨⟨⟨f1, c1', c2', f0, ⟨u0, c0'⟩, cx, cv⟩, -⟩, hst⟩ := And.intro (hz.mid2 hz hz ho) (hz.store ho false)
  have hst := Lib.hid hst
  clear hz ho
  go_enter Tryz.func134, Tryz.ntmps134
  go_wp2_with fail
  refine hS.out.mono ?_
  rintro e w1 ⟨rfl, hw1⟩
  obtain rfl := hw1.symm
  go_wp2_with fail
  go_ret
  exact ⟨_, rfl, hst.out⟩
 ·by_cases h0 : xs.length = 0
  ·obtain rfl : xs = [] := List.eq_nil_of_length_eq_zero h0
   have hS := Lib.hid (setBytes_none w (some ⟨b, 0, none⟩) c)
   have c1 := hz.abs
   have ho : NatOut w w w.heap.size (.slice none 0 0) (.slice none 0 0) (digs WB 0) := ⟨hz.nat, Keeps.refl _ _, fun _ h => .inl h⟩
   obtain ⟨⟨⟨f1, c1', c2', f0, ⟨u0, c0'⟩, cx, cv⟩, -⟩, hst⟩ := And.intro (hz.mid2 hz hz ho) (hz.store ho false)
   have hst := Lib.hid hst
   clear hz ho
   go_enter Tryz.func134, Tryz.ntmps134
   go_wp2_with fail
   refine hS.out.mono ?_
   rintro e w1 ⟨rfl, hw1⟩
   obtain rfl := hw1.symm
   go_wp2_with fail
   go_ret
   exact ⟨_, rfl, hst.out⟩
  ·exact intSetBytes_any w w.heap.size g 0 xs.length c 0 b false (.slice none 0 0) xs hz hv rfl hb (by omega) hc hn (Nat.le_refl _) (by simp [Value.ownBlock]) hl
set_option maxRecDepth 100000 in
theorem bigOf_any (w : World) (neg : Bool) (v : Value) (xs : List Nat) (h : BytesIn w v xs) (hn : xs.length ≤ 400) :
  Calls Tryz.prog 62 #[.agg #[.bool neg, v]] w fun e w' => ∃ g v', e = .returned (.tuple #[.pointer (some ⟨g, 0, none⟩), .bool true]) ∧ IntNew w w' g (neg && decide (beVal xs ≠ 0)) v' (beVal xs) := by
 obtain ⟨p, c, rfl, hrest⟩ := id h
 have k0 := (Keeps.refl (fun _ => False) w).alloc (.cells #[.bool neg, .slice p xs.length c] 24)
 have kI := k0.alloc (.cells #[.bool false, .slice none 0 0] 143)
 have hS := newSetBytes ((w.alloc (.cells #[.bool neg, .slice p xs.length c] 24)).alloc (.cells #[.bool false, .slice none 0 0] 143)) (w.alloc (.cells #[.bool neg, .slice p xs.length c] 24)).heap.size _ xs (newAt _ _) (h.kept kI) (by omega)
 have cn : ((w.alloc (.cells #[.bool neg, .slice p xs.length c] 24)).alloc (.cells #[.bool false, .slice none 0 0] 143)).cell? ⟨w.heap.size, 0, none⟩ = some (.bool neg) := by
  have hb := blk_new w (.cells #[.bool neg, .slice p xs.length c] 24 (0, 0))
  exact ((Keeps.refl (fun _ => False) _).alloc _).cellS (by rw [cellOf hb]; rfl) (fun h => h)
 simp only [World.size_alloc] at hS
 have hS := Lib.hid hS
 have hsz := kI.size
 have t0 : ¬ (400 : Int) < xs.length := by omega
 clear h hrest
 have hfin : ∀ (w2 : World) (v' : Value), IntOut ((w.alloc (.cells #[.bool neg, .slice p xs.length c] 24)).alloc (.cells #[.bool false, .slice none 0 0] 143)) w2 ((w.alloc (.cells #[.bool neg, .slice p xs.length c] 24)).alloc (.cells #[.bool false, .slice none 0 0] 143)).heap.size (w.heap.size + 1) 0 (.slice none 0 0) false v' (beVal xs) → IntNew w w2 (w.heap.size + 1) false v' (beVal xs) ∧ w2.cell? ⟨w.heap.size, 0, none⟩ = some (.bool neg) := fun w2 v' ho =>
  ⟨⟨ho.at_.lower hsz, ho.fresh kI (by omega) (fun _ h => by simp [Value.ownBlock] at h), by omega⟩, ho.keep.cellS cn (fun h => by simp [Value.ownBlock] at h)⟩
 have hfin := Lib.hid hfin
 cases neg
 ·go_enter Tryz.func62, Tryz.ntmps62
  go_wp2_with fail
  refine hS.out.mono ?_
  rintro e w2 ⟨v', rfl, ho⟩
  obtain ⟨hI, cN⟩ := hfin.out w2 v' (by simpa only [World.size_alloc] using ho)
  have hI := Lib.hid hI
  clear ho cn
  go_wp2_with fail
  go_ret2
  exact ⟨_, v', rfl, hI.out⟩
 ·go_enter Tryz.func62, Tryz.ntmps62
  go_wp2_with fail
  refine hS.out.mono ?_
  rintro e w2 ⟨v', rfl, ho⟩
  obtain ⟨hI, cN⟩ := hfin.out w2 v' (by simpa only [World.size_alloc] using ho)
  clear ho cn
  have hN := Lib.hid (intNegSelf_any w2 _ _ _ _ _ _ hI.at_)
  have hI2 : IntNew w (w2.setCell ⟨w.heap.size + 1, 0, none⟩ (.bool (decide (beVal xs ≠ 0) && !false))) (w.heap.size + 1) (decide (beVal xs ≠ 0) && !false) v' (beVal xs) :=
   ⟨(hI.at_.self _).at_, hI.keep.setCell _ _ (fun hh => absurd hh (by simp)), hI.ge⟩
  have hI2 := Lib.hid hI2
  clear hI
  go_wp2_with fail
  refine hN.out.mono ?_
  rintro e w3 ⟨rfl, rfl⟩
  go_wp2_with fail
  go_ret2
  refine ⟨_, v', rfl, ?_⟩
  have := hI2.out
  simpa using this
end Go.Proofs.YthocmhkafgpgbaaGreatDoor
namespace Go.Proofs.YthocmhkafgpgbaaGreatDoor
open Go.RowKit
open Go.Proofs.YthocmhkafgpgbaaGreatDoorW.PrintLast
set_option maxRecDepth 100000 in
theorem ratOf_any (w : World) (neg : Bool) (v u : Value) (xs ys : List Nat) (h : BytesIn w v xs) (hd : BytesIn w u ys) (hn : xs.length ≤ 400) (hm : ys.length ≤ 400) (hy : beVal ys ≠ 0) (hs : beVal xs < WB ∨ beVal ys < WB)
  (hlx : (digs WB (beVal xs)).length ≤ 1000) (hly : (digs WB (beVal ys)).length ≤ 1000) :
  Calls Tryz.prog 42 #[.agg #[.bool neg, v, u]] w fun e w' => ∃ g v' u', e = .returned (.tuple #[.pointer (some ⟨g, 0, none⟩), .bool true]) ∧ RatNew w w' g (neg && decide (beVal xs ≠ 0)) v' u' (beVal xs / Nat.gcd (beVal xs) (beVal ys)) (beVal ys / Nat.gcd (beVal xs) (beVal ys)) := by
 obtain ⟨pv, cv, rfl, -⟩ := id h
 obtain ⟨pu, cu, rfl, -⟩ := id hd
 have k0 := (Keeps.refl (fun _ => False) w).alloc (.cells #[.bool neg, .slice pv xs.length cv, .slice pu ys.length cu] 43)
 have hb0 := blk_new w (.cells #[.bool neg, .slice pv xs.length cv, .slice pu ys.length cu] 43 (0, 0))
 have c2 : (w.alloc (.cells #[.bool neg, .slice pv xs.length cv, .slice pu ys.length cu] 43)).cell? ⟨w.heap.size, 2, none⟩ = some (.slice pu ys.length cu) := by rw [cellOf hb0]; rfl
 have hl0 : w.heap.size < (w.alloc (.cells #[.bool neg, .slice pv xs.length cv, .slice pu ys.length cu] 43)).heap.size := sizeOf_blk hb0
 have hlx' := hlx
 have h1 := Lib.hid (bigOf_any (w.alloc (.cells #[.bool neg, .slice pv xs.length cv, .slice pu ys.length cu] 43)) neg _ xs (h.kept k0) hn)
 have hd := hd.kept k0
 clear hb0
 have hd' := Lib.hid hd
 have hc2 := Lib.hid c2
 clear c2
 clear h hd
 generalize hX : beVal xs = X at *
 generalize hY : beVal ys = Y at *
 go_enter Tryz.func42, Tryz.ntmps42
 go_wp2_with fail
 refine h1.out.mono ?_
 rintro e w1 ⟨ga, av, rfl, hA⟩
 have c2' := hA.keep.cellS hc2.out (fun h => h)
 have h2 := bigOf_any w1 false _ ys (hd'.out.kept hA.keep) hm
 rw [hY] at h2
 replace h2 := Lib.hid h2
 replace hA := Lib.hid hA
 clear h1 hc2 hd hd' hl0 hX hY hm hn hlx
 have hlx := Lib.hid hlx'
 go_wp2_with fail
 refine h2.out.mono ?_
 rintro e w2 ⟨gb, bv, rfl, hB⟩
 replace hA := hA.out
 have hat := hA.at_.kept hB.keep (fun h => h) (fun _ _ h => h)
 have hS := Lib.hid (intSign_any w2 w1.heap.size gb 0 Y (false && decide (Y ≠ 0)) bv hB.at_ (by simp))
 have k2 := (Keeps.refl (fun _ => False) w2).alloc (.cells #[.bool false, .slice none 0 0, .bool false, .slice none 0 0] 145)
 have hF := setFrac_any (w2.alloc (.cells #[.bool false, .slice none 0 0, .bool false, .slice none 0 0] 145)) w.heap.size _ _ w2.heap.size ga 0 gb 0 X Y _ _ false av bv (newRatAt w2 w.heap.size) (hat.kept k2 (fun h => h) (fun _ _ h => h)) (hB.at_.kept k2 (fun h => h) (fun _ _ h => h)) (by have := hat.known.lt; omega) (by have := hB.at_.known.lt; omega) (Nat.le_trans (Nat.le_trans (Nat.le_trans k0.size hA.keep.size) hB.keep.size) k2.size) hy hs hlx.out hly
 replace hF := Lib.hid hF
 have hkk : Keeps (fun _ => False) w (w2.alloc (.cells #[.bool false, .slice none 0 0, .bool false, .slice none 0 0] 145)) := ((k0.trans hA.keep (fun _ _ h => h)).trans hB.keep (fun _ _ h => h)).trans k2 (fun _ _ h => h)
 have hsz : w.heap.size ≤ w2.heap.size := Nat.le_trans (Nat.le_trans k0.size hA.keep.size) hB.keep.size --.size hB.keep.size
 clear hA hB hat k2 c2' hlx hly hs k0 h2
 have hsg : ((if Y = 0 then 0 else if (false && decide (Y ≠ 0)) = true then -1 else 1 : Int)) = 1 := by rw [if_neg hy]; simp
 rw [hsg] at hS
 clear hy hsg
 go_wp2_with fail
 refine hS.out.mono ?_
 rintro e w3 ⟨rfl, hw3⟩
 obtain rfl := hw3.symm
 go_wp2_with fail
 refine hF.out.mono ?_
 rintro e w3 ⟨v', u', rfl, ho⟩
 have hfin := Lib.hid (ho.new hkk hsz)
 clear ho
 go_wp2_with fail
 go_ret2
 refine ⟨_, v', u', rfl, ?_⟩
 have := hfin.out
 have e2 : (decide (X ≠ 0) && (neg && decide (X ≠ 0)) != (false && decide (Y ≠ 0))) = (neg && decide (X ≠ 0)) := by cases neg <;> cases decide (X ≠ 0) <;> rfl
 rw [e2] at this
 exact this
theorem bigStruct : ∃ fs, Tryz.prog.underlying 24 = some (.struct fs) := by
 have h : (Tryz.prog.underlying 24).map (fun d => match d with | .struct _ => true | _ => false) = some true := by kernel_rfl
 cases hd : Tryz.prog.underlying 24 with
 | none => simp [hd] at h
 | some d => cases d <;> simp_all
theorem ratStruct : ∃ fs, Tryz.prog.underlying 43 = some (.struct fs) := by
 have h : (Tryz.prog.underlying 43).map (fun d => match d with | .struct _ => true | _ => false) = some true := by kernel_rfl
 cases hd : Tryz.prog.underlying 43 with
 | none => simp [hd] at h
 | some d => cases d <;> simp_all
theorem bigSize {cs : Array Value} (h : cs.size = 2) : (Tryz.prog.info? 24).map (·.size) = some cs.size := by rw [h]; kernel_rfl
theorem ratSize {cs : Array Value} (h : cs.size = 3) : (Tryz.prog.info? 43).map (·.size) = some cs.size := by rw [h]; kernel_rfl
theorem results_big (w : World) (b : Nat) (v : Array Value) (hv : v.size = 2) (hb : w.heap[b]? = some (.cells v 24 (0, 0))) (tmps : Array Value) (h2 : tmps.getD 2 undef = .pointer (some ⟨b, 0, none⟩)) :
  (results Tryz.f128 tmps).run Tryz.prog w = .ok (.agg v) w := by
 obtain ⟨fs, hu⟩ := bigStruct
 exact results_cell_row Tryz.results128 tmps w b 24 v (0, 0) _ h2 hb hu rfl (bigSize hv)
theorem results_rat (w : World) (b : Nat) (v : Array Value) (hv : v.size = 3) (hb : w.heap[b]? = some (.cells v 43 (0, 0))) (tmps : Array Value) (h2 : tmps.getD 2 undef = .pointer (some ⟨b, 0, none⟩)) :
  (results Tryz.f55 tmps).run Tryz.prog w = .ok (.agg v) w := by
 obtain ⟨fs, hu⟩ := ratStruct
 exact results_cell_row Tryz.results55 tmps w b 43 v (0, 0) _ h2 hb hu rfl (ratSize hv)
set_option maxRecDepth 100000 in
theorem bigBack_any (w : World) (base g o a : Nat) (s : Bool) (v : Value) (h : IntAt w base g o s v a) (hs : s = true → a ≠ 0) (hle : (digs WB a).length ≤ 1000) :
  Calls Tryz.prog 128 #[.pointer (some ⟨g, o, none⟩)] w fun e w' => ∃ b p c : Nat, e = .returned (.agg #[.bool s, .slice (some ⟨b, p, none⟩) (beB a).length c]) ∧ (beB a).length ≤ c ∧ VecB w' b p (beB a) ∧ w.heap.size ≤ b ∧ Keeps (fun _ => False) w w' := by
 have k0 := (Keeps.refl (fun _ => False) w).alloc (.cells #[.bool false, .slice none 0 0] 24)
 have hb0 := blk_new w (.cells #[.bool false, .slice none 0 0] 24 (0, 0))
 have h0 := h.kept k0 (fun h => h) (fun _ _ h => h)
 have hS := Lib.hid (intSign_any _ base g o a s v h0 hs)
 have hB := Lib.hid (intBytes_any _ base g o a s v h0 hle)
 have hx : (if a = 0 then 0 else if s = true then -1 else 1 : Int) < 0 ↔ s = true := by
  cases s
  ·by_cases e : a = 0 <;> simp [e]
  ·have := hs rfl; simp [this]
 generalize (if a = 0 then 0 else if s = true then -1 else 1 : Int) = x at *
 clear h hs hle h0
 have hb0 := Lib.hid hb0
 have k0 := Lib.hid k0
 have hl0 := sizeOf_blk hb0.out
 have e1 : ∀ W : World, (W = W.drew) → True := fun _ _ => trivial
 go_enter Tryz.func128, Tryz.ntmps128
 go_wp2_with fail
 refine hS.out.mono ?_
 rintro e w1 ⟨rfl, hw1⟩
 obtain rfl := hw1.symm
 go_wp2_with fail
 refine hB.out.mono ?_
 rintro e w1 ⟨b, p, c, rfl, hc, hv, hlb, hk⟩
 have hb1 := hk.blk w.heap.size hl0 (fun h => h)
 rw [hb0.out] at hb1
 have hk := Lib.hid hk
 have hv := Lib.hid hv
 have hlb := Lib.hid hlb
 have hc := Lib.hid hc
 have f0 := frozenOf hb1
 have c0 : w1.cell? ⟨w.heap.size, 0, none⟩ = some (.bool false) := by rw [cellOf hb1]; rfl
 have c1 : w1.cell? ⟨w.heap.size, 1, none⟩ = some (.slice none 0 0) := by rw [cellOf hb1]; rfl
 go_wp2_with fail
 have hb3 := blk_setCell (blk_setCell hb1 0 (.bool s)) 1 (.slice (some ⟨b, p, none⟩) (beB a).length c)
 have hne : b ≠ w.heap.size := by have := hlb.out; omega
 have kk : Keeps (fun k => k = w.heap.size) w1 ((w1.setCell ⟨w.heap.size, 0, none⟩ (.bool s)).setCell ⟨w.heap.size, 1, none⟩ (.slice (some ⟨b, p, none⟩) (beB a).length c)) :=
  ((Keeps.refl (fun k => k = w.heap.size) w1).setCell _ _ (fun _ => rfl)).setCell _ _ (fun _ => rfl)
 exact ⟨rfl, _, results_big _ _ _ rfl hb3 _ rfl, ⟨b, p, c, rfl, hc.out, fun j hj => kk.cellS (hv.out j hj) (fun h => hne h), Nat.le_trans k0.out.size hlb.out, (k0.out.trans hk.out (fun _ _ h => h)).trans kk (fun k hk e => by omega)⟩⟩
set_option maxRecDepth 100000 in
theorem ratBack_any (w : World) (base g n d : Nat) (s : Bool) (v u : Value) (h : RatAt w base g s false v u n d) (hs : s = true → n ≠ 0) (hd : d ≠ 0) (hle : (digs WB n).length ≤ 1000) (hle2 : (digs WB d).length ≤ 1000) :
  Calls Tryz.prog 55 #[.pointer (some ⟨g, 0, none⟩)] w fun e w' => ∃ b p c b' p' c' : Nat, e = .returned (.agg #[.bool s, .slice (some ⟨b, p, none⟩) (beB n).length c, .slice (some ⟨b', p', none⟩) (beB d).length c']) ∧ (beB n).length ≤ c ∧ VecB w' b p (beB n) ∧ w.heap.size ≤ b ∧ (beB d).length ≤ c' ∧ VecB w' b' p' (beB d) ∧ w.heap.size ≤ b' ∧ Keeps (fun _ => False) w w' := by
 have k0 := (Keeps.refl (fun _ => False) w).alloc (.cells #[.bool false, .slice none 0 0, .slice none 0 0] 43)
 have hb0 := blk_new w (.cells #[.bool false, .slice none 0 0, .slice none 0 0] 43 (0, 0))
 have h0 := h.kept k0 (fun h => h) (fun _ _ h => h) (fun _ _ h => h)
 have hN := Lib.hid (ratNum_any (w.alloc (.cells #[.bool false, .slice none 0 0, .slice none 0 0] 43)) g)
 have hB := Lib.hid (bigBack_any _ base g 0 n s v h0.num hs hle)
 have h0 := Lib.hid h0
 have hb0 := Lib.hid hb0
 have k0 := Lib.hid k0
 have hl0 := sizeOf_blk hb0.out
 clear h hs hle
 go_enter Tryz.func55, Tryz.ntmps55
 go_wp2_with fail
 refine hN.out.mono ?_
 rintro e w1 ⟨rfl, hw1⟩
 obtain rfl := hw1.symm
 go_wp2_with fail
 refine hB.out.mono ?_
 rintro e w1 ⟨b, p, c, rfl, hc, hv, hlb, hk⟩
 have h1 := h0.out.kept hk (fun h => h) (fun _ _ h => h) (fun _ _ h => h)
 have hD := Lib.hid (ratDenom_any w1 base g n d s false v u h1 hd)
 have hE := Lib.hid (intBytes_any w1 base g 2 d false u h1.den hle2)
 have hb1 := hk.blk w.heap.size hl0 (fun h => h)
 rw [hb0.out] at hb1
 replace hb1 := Lib.hid hb1
 replace hk := Lib.hid hk
 replace hv := Lib.hid hv
 replace hlb := Lib.hid hlb
 replace hc := Lib.hid hc
 clear h1 hd hle2
 go_wp2_with fail
 refine hD.out.mono ?_
 rintro e w2 ⟨rfl, hw2⟩
 obtain rfl := hw2.symm
 go_wp2_with fail
 refine hE.out.mono ?_
 rintro e w2 ⟨b', p', c', rfl, hc', hv', hlb', hk'⟩
 have hb2 := hk'.blk w.heap.size (Nat.lt_of_lt_of_le hl0 hk.out.size) (fun h => h)
 rw [hb1.out] at hb2
 replace hk' := Lib.hid hk'
 replace hv' := Lib.hid hv'
 replace hlb' := Lib.hid hlb'
 replace hc' := Lib.hid hc'
 have f0 := frozenOf hb2
 have c0 : w2.cell? ⟨w.heap.size, 0, none⟩ = some (.bool false) := by rw [cellOf hb2]; rfl
 have c1 : w2.cell? ⟨w.heap.size, 1, none⟩ = some (.slice none 0 0) := by rw [cellOf hb2]; rfl
 have c2 : w2.cell? ⟨w.heap.size, 2, none⟩ = some (.slice none 0 0) := by rw [cellOf hb2]; rfl
 go_wp2_with fail
 have hb3 := blk_setCell (blk_setCell (blk_setCell hb2 0 (.bool s)) 1 (.slice (some ⟨b, p, none⟩) (beB n).length c)) 2 (.slice (some ⟨b', p', none⟩) (beB d).length c')
 have hne : b ≠ w.heap.size := by have := hlb.out; omega
 have hne' : b' ≠ w.heap.size := by have := hlb'.out; have := hk.out.size; omega
 have kk : Keeps (fun k => k = w.heap.size) w2 (((w2.setCell ⟨w.heap.size, 0, none⟩ (.bool s)).setCell ⟨w.heap.size, 1, none⟩ (.slice (some ⟨b, p, none⟩) (beB n).length c)).setCell ⟨w.heap.size, 2, none⟩ (.slice (some ⟨b', p', none⟩) (beB d).length c')) :=
  (((Keeps.refl (fun k => k = w.heap.size) w2).setCell _ _ (fun _ => rfl)).setCell _ _ (fun _ => rfl)).setCell _ _ (fun _ => rfl)
 have k01 := k0.out.trans hk.out (fun _ _ h => h)
 exact ⟨rfl, _, results_rat _ _ _ rfl hb3 _ rfl, ⟨b, p, c, b', p', c', rfl, hc.out, fun j hj => kk.cellS (hk'.out.cellS (hv.out j hj) (fun h => h)) (fun h => hne h), Nat.le_trans k0.out.size hlb.out, hc'.out, fun j hj => kk.cellS (hv'.out j hj) (fun h => hne' h), Nat.le_trans k01.size hlb'.out, (k01.trans hk'.out (fun _ _ h => h)).trans kk (fun k hk e => by omega)⟩⟩
end Go.Proofs.YthocmhkafgpgbaaGreatDoor
